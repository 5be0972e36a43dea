import JvmDerived
import JvmDerived.Pilot.@@N@@Statement
import JvmDerived.Pilot.@@N@@Code
set_option linter.unusedVariables false
set_option linter.unusedSimpArgs false
namespace Jvm.Pilot.@@N@@
open Jvm Jvm.ClassFile Sem Op Lib Jvm.Free Jvm.Stand Jvm.LawKit Jvm.RoadKit Bundle Jvm.Pilot.@@N@@.Jvm.D
section OwnKit
variable {p : Program} {l : Launch} {e : Env} {R : Room} {s : State} {m : MethodId} {args : Array Value} {below : List Frame} {meth : Method} {c : Code} {T T' : State} {locs : List Loc} {cells slots : Nat} {P : Outcome → State → Prop} {Q : Option Value → Heap → List Loc → Prop} {cC cS : Nat} {bytes : ByteArray} {ls : Array Slot} {st : List Value} {pc pc' : Nat} {g g' : JFrame} {Z : State} {a0 : Array Value} {h h' : Heap}
/-- from this state and frame the method comes to its end, returns, and Q holds of what it leaves -/
def own_Got (p : Program) (e : Env) (below : List Frame) (P : Outcome → State → Prop) (T : State) (g : JFrame) : Prop :=
  ∃ s₂ o, Steps p.tables e below (T.setTop g) s₂ ∧ s₂.status = .running ∧ Ended s₂ below o ∧ P o s₂
/-- what a contract says of the end -/
def own_End (s : State) (Q : Option Value → Heap → List Loc → Prop) (cC cS : Nat) (o : Outcome) (U : State) : Prop := ∃ v L, o = .returned v ∧ Q v U.heap L ∧ FrameEnd s o U L cC cS
theorem own_go (k : ∀ t, Steps p.tables e below (T'.setTop g') t → Steps p.tables e below (T.setTop g) t) (h : own_Got p e below P T' g') : own_Got p e below P T g := by
  obtain ⟨s2, o, h1, h2⟩ := h; exact ⟨s2, o, k _ h1, h2⟩
theorem own_tr (k : Steps p.tables e below (T.setTop g) (T'.setTop g')) (h : own_Got p e below P T' g') : own_Got p e below P T g := own_go (fun _ q => k.trans q) h
theorem own_cast (q : g = g') (h : own_Got p e below P T g') : own_Got p e below P T g := q ▸ h
theorem own_retV (X : Stand p l e R s m args below meth c T locs cells slots) (hx : p.tables.exec = Jvm.exec) (hby : c.code = bytes) (hlk : meth.locks = false) (hret : meth.sig.returnType = none) (hd : decode bytes pc = .ok (.return_, 1)) (hc : cells ≤ cC) (hs : slots ≤ cS)
    (hq : Q none T.heap locs) : own_Got p e below (own_End s Q cC cS) T (mkF m pc ls []) := by
  obtain ⟨fs, hr, hrun, hended, hW, hsame⟩ := X.leave (v := none) (fun _ => rfl) hlk
  exact ⟨_, _, X.returnOut hx hret (hb hby hd) hr, hrun, hended, _, _, rfl, hq, ⟨_, rfl⟩, hW, hsame.mono hc hs⟩
theorem own_retI (X : Stand p l e R s m args below meth c T locs cells slots) (hx : p.tables.exec = Jvm.exec) (hby : c.code = bytes) (hlk : meth.locks = false) (hret : meth.sig.returnType = some .int) (hd : decode bytes pc = .ok (.ireturn, 1)) (hc : cells ≤ cC) (hs : slots ≤ cS) {z : Int32}
    (hq : Q (some (.int z)) T.heap locs) : own_Got p e below (own_End s Q cC cS) T (mkF m pc ls (.int z :: st)) := by
  obtain ⟨fs, hr, hrun, hended, hW, hsame⟩ := X.leave (v := some (.int z)) (fun h => by rw [hret] at h; cases h) hlk
  exact ⟨_, _, retOut X hx hret rfl (Or.inl ⟨rfl, Or.inl rfl, _, rfl⟩) (hb hby hd) hr, hrun, hended, _, _, rfl, hq, ⟨_, rfl⟩, hW, hsame.mono hc hs⟩
theorem own_retL (X : Stand p l e R s m args below meth c T locs cells slots) (hx : p.tables.exec = Jvm.exec) (hby : c.code = bytes) (hlk : meth.locks = false) (hret : meth.sig.returnType = some .long) (hd : decode bytes pc = .ok (.lreturn, 1)) (hc : cells ≤ cC) (hs : slots ≤ cS) {z : Int64}
    (hq : Q (some (.long z)) T.heap locs) : own_Got p e below (own_End s Q cC cS) T (mkF m pc ls (.long z :: st)) := by
  obtain ⟨fs, hr, hrun, hended, hW, hsame⟩ := X.leave (v := some (.long z)) (fun h => by rw [hret] at h; cases h) hlk
  exact ⟨_, _, retOut X hx hret rfl (Or.inr (Or.inl ⟨rfl, rfl, _, rfl⟩)) (hb hby hd) hr, hrun, hended, _, _, rfl, hq, ⟨_, rfl⟩, hW, hsame.mono hc hs⟩
theorem own_retD (X : Stand p l e R s m args below meth c T locs cells slots) (hx : p.tables.exec = Jvm.exec) (hby : c.code = bytes) (hlk : meth.locks = false) (hret : meth.sig.returnType = some .double) (hd : decode bytes pc = .ok (.dreturn, 1)) (hc : cells ≤ cC) (hs : slots ≤ cS) {z : UInt64}
    (hq : Q (some (.double z)) T.heap locs) : own_Got p e below (own_End s Q cC cS) T (mkF m pc ls (.double z :: st)) := by
  obtain ⟨fs, hr, hrun, hended, hW, hsame⟩ := X.leave (v := some (.double z)) (fun h => by rw [hret] at h; cases h) hlk
  exact ⟨_, _, retOut X hx hret rfl (Or.inr (Or.inr (Or.inl ⟨rfl, rfl, _, rfl⟩))) (hb hby hd) hr, hrun, hended, _, _, rfl, hq, ⟨_, rfl⟩, hW, hsame.mono hc hs⟩
theorem own_retN (X : Stand p l e R s m args below meth c T locs cells slots) (hx : p.tables.exec = Jvm.exec) (hby : c.code = bytes) (hlk : meth.locks = false) {t : FieldType} (hret : meth.sig.returnType = some t) (ht : t = .boolean ∨ t = .byte ∨ t = .char ∨ t = .short) (hd : decode bytes pc = .ok (.ireturn, 1)) (hc : cells ≤ cC) (hs : slots ≤ cS) {z : Int32}
    (hq : Q (some (.int (nar t z))) T.heap locs) : own_Got p e below (own_End s Q cC cS) T (mkF m pc ls (.int z :: st)) := by
  obtain ⟨fs, hr, hrun, hended, hW, hsame⟩ := X.leave (v := some (.int (nar t z))) (fun h => by rw [hret] at h; cases h) hlk
  exact ⟨_, _, retN X hx hret ht (hb hby hd) hr, hrun, hended, _, _, rfl, hq, ⟨_, rfl⟩, hW, hsame.mono hc hs⟩
theorem own_retR (X : Stand p l e R s m args below meth c T locs cells slots) (hx : p.tables.exec = Jvm.exec) (hby : c.code = bytes) (hlk : meth.locks = false) {t : FieldType} (hret : meth.sig.returnType = some t) (ht : t.isReference = true) (hd : decode bytes pc = .ok (.areturn, 1)) (hc : cells ≤ cC) (hs : slots ≤ cS) {w : Value} (hw : w.isRef = true)
    (hq : Q (some w) T.heap locs) : own_Got p e below (own_End s Q cC cS) T (mkF m pc ls (w :: st)) := by
  obtain ⟨fs, hr, hrun, hended, hW, hsame⟩ := X.leave (v := some w) (fun h => by rw [hret] at h; cases h) hlk
  have hn : narrow t w = w := by rcases ref_cases hw with rfl | ⟨a, rfl⟩ <;> cases t <;> first | rfl | (cases ht)
  exact ⟨_, _, retOut X hx hret hn (Or.inr (Or.inr (Or.inr (Or.inr ⟨rfl, ht, hw⟩)))) (hb hby hd) hr, hrun, hended, _, _, rfl, hq, ⟨_, rfl⟩, hW, hsame.mono hc hs⟩
theorem g_iloadN (X : Stand p l e R s m args below meth c T locs cells slots) (hx : p.tables.exec = Jvm.exec) (hby : c.code = bytes) {k : Fin 4} {v : Int32} (hd : decode bytes pc = .ok (.iload_n k, 1)) (hl : ls[k.val]? = some (.val (.int v))) (hp : pc + 1 = pc')
    (k : own_Got p e below P T (mkF m pc' ls (.int v :: st))) : own_Got p e below P T (mkF m pc ls (st)) := by
  subst hp; exact own_go (fun _ q => XS.iloadN X.here hx rfl (hb hby hd) hl q) k
theorem g_iload (X : Stand p l e R s m args below meth c T locs cells slots) (hx : p.tables.exec = Jvm.exec) (hby : c.code = bytes) {k : Nat} {v : Int32} (hd : decode bytes pc = .ok (.iload k, 2)) (hl : ls[k]? = some (.val (.int v))) (hp : pc + 2 = pc')
    (k : own_Got p e below P T (mkF m pc' ls (.int v :: st))) : own_Got p e below P T (mkF m pc ls (st)) := by
  subst hp; exact own_go (fun _ q => XS.iload X.here hx rfl (hb hby hd) hl q) k
theorem g_lloadN (X : Stand p l e R s m args below meth c T locs cells slots) (hx : p.tables.exec = Jvm.exec) (hby : c.code = bytes) {k : Fin 4} {v : Int64} (hd : decode bytes pc = .ok (.lload_n k, 1)) (hl : ls[k.val]? = some (.val (.long v))) (hp : pc + 1 = pc')
    (k : own_Got p e below P T (mkF m pc' ls (.long v :: st))) : own_Got p e below P T (mkF m pc ls (st)) := by
  subst hp; exact own_go (fun _ q => XS.lloadN X.here hx rfl (hb hby hd) hl q) k
theorem g_lload (X : Stand p l e R s m args below meth c T locs cells slots) (hx : p.tables.exec = Jvm.exec) (hby : c.code = bytes) {k : Nat} {v : Int64} (hd : decode bytes pc = .ok (.lload k, 2)) (hl : ls[k]? = some (.val (.long v))) (hp : pc + 2 = pc')
    (k : own_Got p e below P T (mkF m pc' ls (.long v :: st))) : own_Got p e below P T (mkF m pc ls (st)) := by
  subst hp; exact own_go (fun _ q => XS.lload X.here hx rfl (hb hby hd) hl q) k
theorem g_dloadN (X : Stand p l e R s m args below meth c T locs cells slots) (hx : p.tables.exec = Jvm.exec) (hby : c.code = bytes) {k : Fin 4} {v : UInt64} (hd : decode bytes pc = .ok (.dload_n k, 1)) (hl : ls[k.val]? = some (.val (.double v))) (hp : pc + 1 = pc')
    (k : own_Got p e below P T (mkF m pc' ls (.double v :: st))) : own_Got p e below P T (mkF m pc ls (st)) := by
  subst hp; exact own_go (fun _ q => XS.dloadN X.here hx rfl (hb hby hd) hl q) k
theorem g_dload (X : Stand p l e R s m args below meth c T locs cells slots) (hx : p.tables.exec = Jvm.exec) (hby : c.code = bytes) {k : Nat} {v : UInt64} (hd : decode bytes pc = .ok (.dload k, 2)) (hl : ls[k]? = some (.val (.double v))) (hp : pc + 2 = pc')
    (k : own_Got p e below P T (mkF m pc' ls (.double v :: st))) : own_Got p e below P T (mkF m pc ls (st)) := by
  subst hp; exact own_go (fun _ q => XS.dload X.here hx rfl (hb hby hd) hl q) k
theorem g_aloadN (X : Stand p l e R s m args below meth c T locs cells slots) (hx : p.tables.exec = Jvm.exec) (hby : c.code = bytes) {k : Fin 4} {v : Value} (hd : decode bytes pc = .ok (.aload_n k, 1)) (hl : ls[k.val]? = some (.val v)) (hv : v.isRef = true) (hp : pc + 1 = pc')
    (k : own_Got p e below P T (mkF m pc' ls (v :: st))) : own_Got p e below P T (mkF m pc ls (st)) := by
  subst hp; exact own_go (fun _ q => XS.aloadN X.here hx rfl (hb hby hd) hl hv q) k
theorem g_aload (X : Stand p l e R s m args below meth c T locs cells slots) (hx : p.tables.exec = Jvm.exec) (hby : c.code = bytes) {k : Nat} {v : Value} (hd : decode bytes pc = .ok (.aload k, 2)) (hl : ls[k]? = some (.val v)) (hv : v.isRef = true) (hp : pc + 2 = pc')
    (k : own_Got p e below P T (mkF m pc' ls (v :: st))) : own_Got p e below P T (mkF m pc ls (st)) := by
  subst hp; exact own_go (fun _ q => XS.aload X.here hx rfl (hb hby hd) hl hv q) k
theorem g_istoreN (X : Stand p l e R s m args below meth c T locs cells slots) (hx : p.tables.exec = Jvm.exec) (hby : c.code = bytes) {k : Fin 4} {x : Int32} (ls' : Array Slot) (hd : decode bytes pc = .ok (.istore_n k, 1)) (hl : storeLocals ls k.val (.int x) = some ls') (hp : pc + 1 = pc')
    (k : own_Got p e below P T (mkF m pc' ls' (st))) : own_Got p e below P T (mkF m pc ls (.int x :: st)) := by
  subst hp; exact own_go (fun _ q => XS.istoreN X.here hx rfl (hb hby hd) rfl hl q) k
theorem g_istore (X : Stand p l e R s m args below meth c T locs cells slots) (hx : p.tables.exec = Jvm.exec) (hby : c.code = bytes) {k : Nat} {x : Int32} (ls' : Array Slot) (hd : decode bytes pc = .ok (.istore k, 2)) (hl : storeLocals ls k (.int x) = some ls') (hp : pc + 2 = pc')
    (k : own_Got p e below P T (mkF m pc' ls' (st))) : own_Got p e below P T (mkF m pc ls (.int x :: st)) := by
  subst hp; exact own_go (fun _ q => XS.istore X.here hx rfl (hb hby hd) rfl hl q) k
theorem g_lstoreN (X : Stand p l e R s m args below meth c T locs cells slots) (hx : p.tables.exec = Jvm.exec) (hby : c.code = bytes) {k : Fin 4} {x : Int64} (ls' : Array Slot) (hd : decode bytes pc = .ok (.lstore_n k, 1)) (hl : storeLocals ls k.val (.long x) = some ls') (hp : pc + 1 = pc')
    (k : own_Got p e below P T (mkF m pc' ls' (st))) : own_Got p e below P T (mkF m pc ls (.long x :: st)) := by
  subst hp; exact own_go (fun _ q => XS.lstoreN X.here hx rfl (hb hby hd) rfl hl q) k
theorem g_lstore (X : Stand p l e R s m args below meth c T locs cells slots) (hx : p.tables.exec = Jvm.exec) (hby : c.code = bytes) {k : Nat} {x : Int64} (ls' : Array Slot) (hd : decode bytes pc = .ok (.lstore k, 2)) (hl : storeLocals ls k (.long x) = some ls') (hp : pc + 2 = pc')
    (k : own_Got p e below P T (mkF m pc' ls' (st))) : own_Got p e below P T (mkF m pc ls (.long x :: st)) := by
  subst hp; exact own_go (fun _ q => XS.lstore X.here hx rfl (hb hby hd) rfl hl q) k
theorem g_dstoreN (X : Stand p l e R s m args below meth c T locs cells slots) (hx : p.tables.exec = Jvm.exec) (hby : c.code = bytes) {k : Fin 4} {x : UInt64} (ls' : Array Slot) (hd : decode bytes pc = .ok (.dstore_n k, 1)) (hl : storeLocals ls k.val (.double x) = some ls') (hp : pc + 1 = pc')
    (k : own_Got p e below P T (mkF m pc' ls' (st))) : own_Got p e below P T (mkF m pc ls (.double x :: st)) := by
  subst hp; exact own_go (fun _ q => XS.dstoreN X.here hx rfl (hb hby hd) rfl hl q) k
theorem g_dstore (X : Stand p l e R s m args below meth c T locs cells slots) (hx : p.tables.exec = Jvm.exec) (hby : c.code = bytes) {k : Nat} {x : UInt64} (ls' : Array Slot) (hd : decode bytes pc = .ok (.dstore k, 2)) (hl : storeLocals ls k (.double x) = some ls') (hp : pc + 2 = pc')
    (k : own_Got p e below P T (mkF m pc' ls' (st))) : own_Got p e below P T (mkF m pc ls (.double x :: st)) := by
  subst hp; exact own_go (fun _ q => XS.dstore X.here hx rfl (hb hby hd) rfl hl q) k
theorem g_astoreN (X : Stand p l e R s m args below meth c T locs cells slots) (hx : p.tables.exec = Jvm.exec) (hby : c.code = bytes) {k : Fin 4} {x : Value} (ls' : Array Slot) (hd : decode bytes pc = .ok (.astore_n k, 1)) (hv : x.isRef = true) (hl : storeLocals ls k.val x = some ls') (hp : pc + 1 = pc')
    (k : own_Got p e below P T (mkF m pc' ls' (st))) : own_Got p e below P T (mkF m pc ls (x :: st)) := by
  subst hp; exact own_go (fun _ q => XS.astoreN X.here hx rfl (hb hby hd) rfl hv hl q) k
theorem g_astore (X : Stand p l e R s m args below meth c T locs cells slots) (hx : p.tables.exec = Jvm.exec) (hby : c.code = bytes) {k : Nat} {x : Value} (ls' : Array Slot) (hd : decode bytes pc = .ok (.astore k, 2)) (hv : x.isRef = true) (hl : storeLocals ls k x = some ls') (hp : pc + 2 = pc')
    (k : own_Got p e below P T (mkF m pc' ls' (st))) : own_Got p e below P T (mkF m pc ls (x :: st)) := by
  subst hp; exact own_go (fun _ q => XS.astore X.here hx rfl (hb hby hd) rfl hv hl q) k
theorem g_iconst (X : Stand p l e R s m args below meth c T locs cells slots) (hx : p.tables.exec = Jvm.exec) (hby : c.code = bytes) {i : Int} (z : Int32) (hd : decode bytes pc = .ok (.iconst i, 1)) (hz : Int32.ofInt i = z) (hp : pc + 1 = pc')
    (k : own_Got p e below P T (mkF m pc' ls (.int z :: st))) : own_Got p e below P T (mkF m pc ls (st)) := by
  subst hp; subst hz; exact own_go (fun _ q => XS.iconst X.here hx rfl (hb hby hd) q) k
theorem g_bipush (X : Stand p l e R s m args below meth c T locs cells slots) (hx : p.tables.exec = Jvm.exec) (hby : c.code = bytes) {i : Int} (z : Int32) (hd : decode bytes pc = .ok (.bipush i, 2)) (hz : (Int8.ofInt i).toInt32 = z) (hp : pc + 2 = pc')
    (k : own_Got p e below P T (mkF m pc' ls (.int z :: st))) : own_Got p e below P T (mkF m pc ls (st)) := by
  subst hp; subst hz; exact own_go (fun _ q => XS.bipush X.here hx rfl (hb hby hd) q) k
theorem g_sipush (X : Stand p l e R s m args below meth c T locs cells slots) (hx : p.tables.exec = Jvm.exec) (hby : c.code = bytes) {i : Int} (z : Int32) (hd : decode bytes pc = .ok (.sipush i, 3)) (hz : (Int16.ofInt i).toInt32 = z) (hp : pc + 3 = pc')
    (k : own_Got p e below P T (mkF m pc' ls (.int z :: st))) : own_Got p e below P T (mkF m pc ls (st)) := by
  subst hp; subst hz; exact own_go (fun _ q => XS.sipush X.here hx rfl (hb hby hd) q) k
theorem g_lconst (X : Stand p l e R s m args below meth c T locs cells slots) (hx : p.tables.exec = Jvm.exec) (hby : c.code = bytes) {i : Fin 2} (z : Int64) (hd : decode bytes pc = .ok (.lconst i, 1)) (hz : Int64.ofNat i.val = z) (hp : pc + 1 = pc')
    (k : own_Got p e below P T (mkF m pc' ls (.long z :: st))) : own_Got p e below P T (mkF m pc ls (st)) := by
  subst hp; subst hz; exact own_go (fun _ q => XS.lconst X.here hx rfl (hb hby hd) q) k
theorem g_anull (X : Stand p l e R s m args below meth c T locs cells slots) (hx : p.tables.exec = Jvm.exec) (hby : c.code = bytes)  (hd : decode bytes pc = .ok (.aconst_null, 1))  (hp : pc + 1 = pc')
    (k : own_Got p e below P T (mkF m pc' ls (.null :: st))) : own_Got p e below P T (mkF m pc ls (st)) := by
  subst hp; exact own_go (fun _ q => XS.aconstNull X.here hx rfl (hb hby hd) q) k
theorem g_iadd (X : Stand p l e R s m args below meth c T locs cells slots) (hx : p.tables.exec = Jvm.exec) (hby : c.code = bytes) {x y : Int32} (hd : decode bytes pc = .ok (.iadd, 1))  (hp : pc + 1 = pc')
    (k : own_Got p e below P T (mkF m pc' ls (.int (x + y) :: st))) : own_Got p e below P T (mkF m pc ls (.int y :: .int x :: st)) := by
  subst hp; exact own_go (fun _ q => XS.iadd X.here hx rfl (hb hby hd) rfl q) k
theorem g_isub (X : Stand p l e R s m args below meth c T locs cells slots) (hx : p.tables.exec = Jvm.exec) (hby : c.code = bytes) {x y : Int32} (hd : decode bytes pc = .ok (.isub, 1))  (hp : pc + 1 = pc')
    (k : own_Got p e below P T (mkF m pc' ls (.int (x - y) :: st))) : own_Got p e below P T (mkF m pc ls (.int y :: .int x :: st)) := by
  subst hp; exact own_go (fun _ q => XS.isub X.here hx rfl (hb hby hd) rfl q) k
theorem g_iand (X : Stand p l e R s m args below meth c T locs cells slots) (hx : p.tables.exec = Jvm.exec) (hby : c.code = bytes) {x y : Int32} (hd : decode bytes pc = .ok (.iand, 1))  (hp : pc + 1 = pc')
    (k : own_Got p e below P T (mkF m pc' ls (.int (x &&& y) :: st))) : own_Got p e below P T (mkF m pc ls (.int y :: .int x :: st)) := by
  subst hp; exact own_go (fun _ q => XS.iand X.here hx rfl (hb hby hd) rfl q) k
theorem g_ior (X : Stand p l e R s m args below meth c T locs cells slots) (hx : p.tables.exec = Jvm.exec) (hby : c.code = bytes) {x y : Int32} (hd : decode bytes pc = .ok (.ior, 1))  (hp : pc + 1 = pc')
    (k : own_Got p e below P T (mkF m pc' ls (.int (x ||| y) :: st))) : own_Got p e below P T (mkF m pc ls (.int y :: .int x :: st)) := by
  subst hp; exact own_go (fun _ q => XS.ior X.here hx rfl (hb hby hd) rfl q) k
theorem g_ixor (X : Stand p l e R s m args below meth c T locs cells slots) (hx : p.tables.exec = Jvm.exec) (hby : c.code = bytes) {x y : Int32} (hd : decode bytes pc = .ok (.ixor, 1))  (hp : pc + 1 = pc')
    (k : own_Got p e below P T (mkF m pc' ls (.int (x ^^^ y) :: st))) : own_Got p e below P T (mkF m pc ls (.int y :: .int x :: st)) := by
  subst hp; exact own_go (fun _ q => XS.ixor X.here hx rfl (hb hby hd) rfl q) k
theorem g_imul (X : Stand p l e R s m args below meth c T locs cells slots) (hx : p.tables.exec = Jvm.exec) (hby : c.code = bytes) {x y : Int32} (hd : decode bytes pc = .ok (.imul, 1))  (hp : pc + 1 = pc')
    (k : own_Got p e below P T (mkF m pc' ls (.int (x * y) :: st))) : own_Got p e below P T (mkF m pc ls (.int y :: .int x :: st)) := by
  subst hp; exact own_go (fun _ q => XS.imul X.here hx rfl (hb hby hd) rfl q) k
theorem g_ladd (X : Stand p l e R s m args below meth c T locs cells slots) (hx : p.tables.exec = Jvm.exec) (hby : c.code = bytes) {x y : Int64} (hd : decode bytes pc = .ok (.ladd, 1))  (hp : pc + 1 = pc')
    (k : own_Got p e below P T (mkF m pc' ls (.long (x + y) :: st))) : own_Got p e below P T (mkF m pc ls (.long y :: .long x :: st)) := by
  subst hp; exact own_go (fun _ q => XS.ladd X.here hx rfl (hb hby hd) rfl q) k
theorem g_lsub (X : Stand p l e R s m args below meth c T locs cells slots) (hx : p.tables.exec = Jvm.exec) (hby : c.code = bytes) {x y : Int64} (hd : decode bytes pc = .ok (.lsub, 1))  (hp : pc + 1 = pc')
    (k : own_Got p e below P T (mkF m pc' ls (.long (x - y) :: st))) : own_Got p e below P T (mkF m pc ls (.long y :: .long x :: st)) := by
  subst hp; exact own_go (fun _ q => XS.lsub X.here hx rfl (hb hby hd) rfl q) k
theorem g_land (X : Stand p l e R s m args below meth c T locs cells slots) (hx : p.tables.exec = Jvm.exec) (hby : c.code = bytes) {x y : Int64} (hd : decode bytes pc = .ok (.land, 1))  (hp : pc + 1 = pc')
    (k : own_Got p e below P T (mkF m pc' ls (.long (x &&& y) :: st))) : own_Got p e below P T (mkF m pc ls (.long y :: .long x :: st)) := by
  subst hp; exact own_go (fun _ q => XS.land X.here hx rfl (hb hby hd) rfl q) k
theorem g_lor (X : Stand p l e R s m args below meth c T locs cells slots) (hx : p.tables.exec = Jvm.exec) (hby : c.code = bytes) {x y : Int64} (hd : decode bytes pc = .ok (.lor, 1))  (hp : pc + 1 = pc')
    (k : own_Got p e below P T (mkF m pc' ls (.long (x ||| y) :: st))) : own_Got p e below P T (mkF m pc ls (.long y :: .long x :: st)) := by
  subst hp; exact own_go (fun _ q => XS.lor X.here hx rfl (hb hby hd) rfl q) k
theorem g_lxor (X : Stand p l e R s m args below meth c T locs cells slots) (hx : p.tables.exec = Jvm.exec) (hby : c.code = bytes) {x y : Int64} (hd : decode bytes pc = .ok (.lxor, 1))  (hp : pc + 1 = pc')
    (k : own_Got p e below P T (mkF m pc' ls (.long (x ^^^ y) :: st))) : own_Got p e below P T (mkF m pc ls (.long y :: .long x :: st)) := by
  subst hp; exact own_go (fun _ q => XS.lxor X.here hx rfl (hb hby hd) rfl q) k
theorem g_lmul (X : Stand p l e R s m args below meth c T locs cells slots) (hx : p.tables.exec = Jvm.exec) (hby : c.code = bytes) {x y : Int64} (hd : decode bytes pc = .ok (.lmul, 1))  (hp : pc + 1 = pc')
    (k : own_Got p e below P T (mkF m pc' ls (.long (x * y) :: st))) : own_Got p e below P T (mkF m pc ls (.long y :: .long x :: st)) := by
  subst hp; exact own_go (fun _ q => XS.lmul X.here hx rfl (hb hby hd) rfl q) k
theorem g_idiv (X : Stand p l e R s m args below meth c T locs cells slots) (hx : p.tables.exec = Jvm.exec) (hby : c.code = bytes) {x y : Int32} (hd : decode bytes pc = .ok (.idiv, 1)) (hy : y ≠ 0) (hp : pc + 1 = pc')
    (k : own_Got p e below P T (mkF m pc' ls (.int (x / y) :: st))) : own_Got p e below P T (mkF m pc ls (.int y :: .int x :: st)) := by
  subst hp; exact own_go (fun _ q => XS.idiv X.here hx rfl (hb hby hd) rfl hy q) k
theorem g_irem (X : Stand p l e R s m args below meth c T locs cells slots) (hx : p.tables.exec = Jvm.exec) (hby : c.code = bytes) {x y : Int32} (hd : decode bytes pc = .ok (.irem, 1)) (hy : y ≠ 0) (hp : pc + 1 = pc')
    (k : own_Got p e below P T (mkF m pc' ls (.int (x % y) :: st))) : own_Got p e below P T (mkF m pc ls (.int y :: .int x :: st)) := by
  subst hp; exact own_go (fun _ q => iremM X hx rfl (hb hby hd) rfl hy q) k
theorem g_ishl (X : Stand p l e R s m args below meth c T locs cells slots) (hx : p.tables.exec = Jvm.exec) (hby : c.code = bytes) {x y : Int32} (hd : decode bytes pc = .ok (.ishl, 1))  (hp : pc + 1 = pc')
    (k : own_Got p e below P T (mkF m pc' ls (.int (x <<< (y &&& 31)) :: st))) : own_Got p e below P T (mkF m pc ls (.int y :: .int x :: st)) := by
  subst hp; exact own_go (fun _ q => XS.ishl X.here hx rfl (hb hby hd) rfl q) k
theorem g_ishr (X : Stand p l e R s m args below meth c T locs cells slots) (hx : p.tables.exec = Jvm.exec) (hby : c.code = bytes) {x y : Int32} (hd : decode bytes pc = .ok (.ishr, 1))  (hp : pc + 1 = pc')
    (k : own_Got p e below P T (mkF m pc' ls (.int (x >>> (y &&& 31)) :: st))) : own_Got p e below P T (mkF m pc ls (.int y :: .int x :: st)) := by
  subst hp; exact own_go (fun _ q => XS.ishr X.here hx rfl (hb hby hd) rfl q) k
theorem g_iushr (X : Stand p l e R s m args below meth c T locs cells slots) (hx : p.tables.exec = Jvm.exec) (hby : c.code = bytes) {x y : Int32} (hd : decode bytes pc = .ok (.iushr, 1))  (hp : pc + 1 = pc')
    (k : own_Got p e below P T (mkF m pc' ls (.int ((x.toUInt32 >>> (y &&& 31).toUInt32).toInt32) :: st))) : own_Got p e below P T (mkF m pc ls (.int y :: .int x :: st)) := by
  subst hp; exact own_go (fun _ q => XS.iushr X.here hx rfl (hb hby hd) rfl q) k
theorem g_ineg (X : Stand p l e R s m args below meth c T locs cells slots) (hx : p.tables.exec = Jvm.exec) (hby : c.code = bytes) {x : Int32} (hd : decode bytes pc = .ok (.ineg, 1))  (hp : pc + 1 = pc')
    (k : own_Got p e below P T (mkF m pc' ls (.int (-x) :: st))) : own_Got p e below P T (mkF m pc ls (.int x :: st)) := by
  subst hp; exact own_go (fun _ q => XS.ineg X.here hx rfl (hb hby hd) rfl q) k
theorem g_i2b (X : Stand p l e R s m args below meth c T locs cells slots) (hx : p.tables.exec = Jvm.exec) (hby : c.code = bytes) {x : Int32} (hd : decode bytes pc = .ok (.i2b, 1))  (hp : pc + 1 = pc')
    (k : own_Got p e below P T (mkF m pc' ls (.int x.toInt8.toInt32 :: st))) : own_Got p e below P T (mkF m pc ls (.int x :: st)) := by
  subst hp; exact own_go (fun _ q => XS.i2b X.here hx rfl (hb hby hd) rfl q) k
theorem g_i2s (X : Stand p l e R s m args below meth c T locs cells slots) (hx : p.tables.exec = Jvm.exec) (hby : c.code = bytes) {x : Int32} (hd : decode bytes pc = .ok (.i2s, 1))  (hp : pc + 1 = pc')
    (k : own_Got p e below P T (mkF m pc' ls (.int x.toInt16.toInt32 :: st))) : own_Got p e below P T (mkF m pc ls (.int x :: st)) := by
  subst hp; exact own_go (fun _ q => XS.i2s X.here hx rfl (hb hby hd) rfl q) k
theorem g_i2c (X : Stand p l e R s m args below meth c T locs cells slots) (hx : p.tables.exec = Jvm.exec) (hby : c.code = bytes) {x : Int32} (hd : decode bytes pc = .ok (.i2c, 1))  (hp : pc + 1 = pc')
    (k : own_Got p e below P T (mkF m pc' ls (.int x.toUInt32.toUInt16.toUInt32.toInt32 :: st))) : own_Got p e below P T (mkF m pc ls (.int x :: st)) := by
  subst hp; exact own_go (fun _ q => XS.i2c X.here hx rfl (hb hby hd) rfl q) k
theorem g_i2l (X : Stand p l e R s m args below meth c T locs cells slots) (hx : p.tables.exec = Jvm.exec) (hby : c.code = bytes) {x : Int32} (hd : decode bytes pc = .ok (.i2l, 1))  (hp : pc + 1 = pc')
    (k : own_Got p e below P T (mkF m pc' ls (.long x.toInt64 :: st))) : own_Got p e below P T (mkF m pc ls (.int x :: st)) := by
  subst hp; exact own_go (fun _ q => XS.i2l X.here hx rfl (hb hby hd) rfl q) k
theorem g_lcmp (X : Stand p l e R s m args below meth c T locs cells slots) (hx : p.tables.exec = Jvm.exec) (hby : c.code = bytes) {x y : Int64} (hd : decode bytes pc = .ok (.lcmp, 1))  (hp : pc + 1 = pc')
    (k : own_Got p e below P T (mkF m pc' ls (.int (lcmpW x y) :: st))) : own_Got p e below P T (mkF m pc ls (.long y :: .long x :: st)) := by
  subst hp; exact own_go (fun _ q => XS.lcmp X.here hx rfl (hb hby hd) rfl q) k
theorem g_iinc (X : Stand p l e R s m args below meth c T locs cells slots) (hx : p.tables.exec = Jvm.exec) (hby : c.code = bytes) {k : Nat} {cst : Int} {x : Int32} (ls' : Array Slot) (hd : decode bytes pc = .ok (.iinc k cst, 3)) (hl : ls[k]? = some (.val (.int x))) (hl' : storeLocals ls k (.int (x + Int32.ofInt cst)) = some ls') (hp : pc + 3 = pc')
    (k : own_Got p e below P T (mkF m pc' ls' (st))) : own_Got p e below P T (mkF m pc ls (st)) := by
  subst hp; exact own_go (fun _ q => XS.iinc X.here hx rfl (hb hby hd) hl hl' q) k
theorem g_dup (X : Stand p l e R s m args below meth c T locs cells slots) (hx : p.tables.exec = Jvm.exec) (hby : c.code = bytes) {x : Value} (hd : decode bytes pc = .ok (.dup, 1)) (hc : x.category = 1) (hp : pc + 1 = pc')
    (k : own_Got p e below P T (mkF m pc' ls (x :: x :: st))) : own_Got p e below P T (mkF m pc ls (x :: st)) := by
  subst hp; exact own_go (fun _ q => XS.dup X.here hx rfl (hb hby hd) rfl hc q) k
theorem g_dupX1 (X : Stand p l e R s m args below meth c T locs cells slots) (hx : p.tables.exec = Jvm.exec) (hby : c.code = bytes) {x y : Value} (hd : decode bytes pc = .ok (.dup_x1, 1)) (hc : x.category = 1) (hc2 : y.category = 1) (hp : pc + 1 = pc')
    (k : own_Got p e below P T (mkF m pc' ls (x :: y :: x :: st))) : own_Got p e below P T (mkF m pc ls (x :: y :: st)) := by
  subst hp; exact own_go (fun _ q => XS.dupX1 X.here hx rfl (hb hby hd) rfl hc hc2 q) k
theorem g_pop (X : Stand p l e R s m args below meth c T locs cells slots) (hx : p.tables.exec = Jvm.exec) (hby : c.code = bytes) {x : Value} (hd : decode bytes pc = .ok (.pop, 1)) (hc : x.category = 1) (hp : pc + 1 = pc')
    (k : own_Got p e below P T (mkF m pc' ls (st))) : own_Got p e below P T (mkF m pc ls (x :: st)) := by
  subst hp; exact own_go (fun _ q => XS.pop X.here hx rfl (hb hby hd) rfl hc q) k
theorem g_dup2 (X : Stand p l e R s m args below meth c T locs cells slots) (hx : p.tables.exec = Jvm.exec) (hby : c.code = bytes) {x y : Value} (hd : decode bytes pc = .ok (.dup2, 1)) (hc : x.category = 1) (hc2 : y.category = 1) (hp : pc + 1 = pc')
    (k : own_Got p e below P T (mkF m pc' ls (x :: y :: x :: y :: st))) : own_Got p e below P T (mkF m pc ls (x :: y :: st)) := by
  subst hp; exact own_go (fun _ q => XT.dup2 X.here hx rfl (hb hby hd) rfl hc hc2 q) k
theorem g_goto (X : Stand p l e R s m args below meth c T locs cells slots) (hx : p.tables.exec = Jvm.exec) (hby : c.code = bytes) {o : Int} (hd : decode bytes pc = .ok (.goto o, 3))  (ho : 0 ≤ (pc : Int) + o) (hp : ((pc : Int) + o).toNat = pc')
    (k : own_Got p e below P T (mkF m pc' ls (st))) : own_Got p e below P T (mkF m pc ls (st)) := by
  exact own_go (fun _ q => XS.goto X.here hx rfl rfl (hb hby hd) ho hp q) k
theorem g_ifT (X : Stand p l e R s m args below meth c T locs cells slots) (hx : p.tables.exec = Jvm.exec) (hby : c.code = bytes) {cd : ClassFile.Cond} {x : Int32} {o : Int} (hd : decode bytes pc = .ok (.ifCond cd o, 3)) (hc : ifCond.holds cd x = true) (ho : 0 ≤ (pc : Int) + o) (hp : ((pc : Int) + o).toNat = pc')
    (k : own_Got p e below P T (mkF m pc' ls (st))) : own_Got p e below P T (mkF m pc ls (.int x :: st)) := by
  exact own_go (fun _ q => XS.ifYes X.here hx rfl rfl (hb hby hd) rfl hc ho hp q) k
theorem g_icT (X : Stand p l e R s m args below meth c T locs cells slots) (hx : p.tables.exec = Jvm.exec) (hby : c.code = bytes) {cd : ClassFile.Cond} {x y : Int32} {o : Int} (hd : decode bytes pc = .ok (.if_icmp cd o, 3)) (hc : if_icmp.holds cd x y = true) (ho : 0 ≤ (pc : Int) + o) (hp : ((pc : Int) + o).toNat = pc')
    (k : own_Got p e below P T (mkF m pc' ls (st))) : own_Got p e below P T (mkF m pc ls (.int y :: .int x :: st)) := by
  exact own_go (fun _ q => XS.icmpYes X.here hx rfl rfl (hb hby hd) rfl hc ho hp q) k
theorem g_inT (X : Stand p l e R s m args below meth c T locs cells slots) (hx : p.tables.exec = Jvm.exec) (hby : c.code = bytes) {o : Int} (hd : decode bytes pc = .ok (.ifnull o, 3))  (ho : 0 ≤ (pc : Int) + o) (hp : ((pc : Int) + o).toNat = pc')
    (k : own_Got p e below P T (mkF m pc' ls (st))) : own_Got p e below P T (mkF m pc ls (.null :: st)) := by
  exact own_go (fun _ q => XS.ifnullYes X.here hx rfl rfl (hb hby hd) rfl ho hp q) k
theorem g_innT (X : Stand p l e R s m args below meth c T locs cells slots) (hx : p.tables.exec = Jvm.exec) (hby : c.code = bytes) {b : Addr} {o : Int} (hd : decode bytes pc = .ok (.ifnonnull o, 3))  (ho : 0 ≤ (pc : Int) + o) (hp : ((pc : Int) + o).toNat = pc')
    (k : own_Got p e below P T (mkF m pc' ls (st))) : own_Got p e below P T (mkF m pc ls (.ref b :: st)) := by
  exact own_go (fun _ q => XS.ifnonnullYes X.here hx rfl rfl (hb hby hd) rfl ho hp q) k
theorem g_ifF (X : Stand p l e R s m args below meth c T locs cells slots) (hx : p.tables.exec = Jvm.exec) (hby : c.code = bytes) {cd : ClassFile.Cond} {o : Int} {x : Int32} (hd : decode bytes pc = .ok (.ifCond cd o, 3)) (hc : ifCond.holds cd x = false) (hp : pc + 3 = pc')
    (k : own_Got p e below P T (mkF m pc' ls (st))) : own_Got p e below P T (mkF m pc ls (.int x :: st)) := by
  subst hp; exact own_go (fun _ q => XS.ifNo X.here hx rfl (hb hby hd) rfl hc q) k
theorem g_icF (X : Stand p l e R s m args below meth c T locs cells slots) (hx : p.tables.exec = Jvm.exec) (hby : c.code = bytes) {cd : ClassFile.Cond} {o : Int} {x y : Int32} (hd : decode bytes pc = .ok (.if_icmp cd o, 3)) (hc : if_icmp.holds cd x y = false) (hp : pc + 3 = pc')
    (k : own_Got p e below P T (mkF m pc' ls (st))) : own_Got p e below P T (mkF m pc ls (.int y :: .int x :: st)) := by
  subst hp; exact own_go (fun _ q => XS.icmpNo X.here hx rfl (hb hby hd) rfl hc q) k
theorem g_inF (X : Stand p l e R s m args below meth c T locs cells slots) (hx : p.tables.exec = Jvm.exec) (hby : c.code = bytes) {o : Int} {b : Addr} (hd : decode bytes pc = .ok (.ifnull o, 3))  (hp : pc + 3 = pc')
    (k : own_Got p e below P T (mkF m pc' ls (st))) : own_Got p e below P T (mkF m pc ls (.ref b :: st)) := by
  subst hp; exact own_go (fun _ q => XS.ifnullNo X.here hx rfl (hb hby hd) rfl q) k
theorem g_innF (X : Stand p l e R s m args below meth c T locs cells slots) (hx : p.tables.exec = Jvm.exec) (hby : c.code = bytes) {o : Int} (hd : decode bytes pc = .ok (.ifnonnull o, 3))  (hp : pc + 3 = pc')
    (k : own_Got p e below P T (mkF m pc' ls (st))) : own_Got p e below P T (mkF m pc ls (.null :: st)) := by
  subst hp; exact own_go (fun _ q => XS.ifnonnullNo X.here hx rfl (hb hby hd) rfl q) k
theorem g_acmp (X : Stand p l e R s m args below meth c T locs cells slots) (hx : p.tables.exec = Jvm.exec) (hby : c.code = bytes) {cd : ACond} {x y : Value} {o : Int} (same : Bool) (hd : decode bytes pc = .ok (.if_acmp cd o, 3)) (h1 : x.isRef = true) (h2 : y.isRef = true) (hq : decide (x = y) = same) (ho : 0 ≤ (pc : Int) + o) (hp : pc' = if acV cd same = true then ((pc : Int) + o).toNat else pc + 3)
    (k : own_Got p e below P T (mkF m pc' ls st)) : own_Got p e below P T (mkF m pc ls (y :: x :: st)) :=
  own_go (fun _ q => Jvm.RoadKit.acmp X hx rfl h1 h2 rfl (hb hby hd) rfl hq ho hp q) k
theorem g_ldcI (X : Stand p l e R s m args below meth c T locs cells slots) (hx : p.tables.exec = Jvm.exec) (hby : c.code = bytes) (hZ : Z.Warmed39 s.vm) {own : String} {index : Nat} {v : Int32} (hown : s.vm.findClass own = some m.cls) (w : (Cond.constant own index v).before a0 Z = true) (hd : decode bytes pc = .ok (.ldc index, 2)) (hp : pc + 2 = pc')
    (k : own_Got p e below P T (mkF m pc' ls (.int v :: st))) : own_Got p e below P T (mkF m pc ls st) := by
  subst hp; exact own_go (X.ldcInt hx hown (mvT hZ w) rfl (hb hby hd)) k
theorem g_ldc2D (X : Stand p l e R s m args below meth c T locs cells slots) (hx : p.tables.exec = Jvm.exec) (hby : c.code = bytes) (hZ : Z.Warmed39 s.vm) {own : String} {index : Nat} {v : UInt64} (hown : s.vm.findClass own = some m.cls) (w : (Cond.constantDouble own index v).before a0 Z = true) (hd : decode bytes pc = .ok (.ldc2_w index, 3)) (hp : pc + 3 = pc')
    (k : own_Got p e below P T (mkF m pc' ls (.double v :: st))) : own_Got p e below P T (mkF m pc ls st) := by
  subst hp; exact own_go (X.ldc2DoubleC hx hown (mvT hZ w) rfl (hb hby hd)) k
theorem g_alen (X : Stand p l e R s m args below meth c T locs cells slots) (hx : p.tables.exec = Jvm.exec) (hby : c.code = bytes) (hZ : Z.Warmed39 s.vm) (eT : T.heap = h) {a : Addr} {kk : ClassId} {ty : FieldType} {n : Int32} {vs : List Value} {d : Value} (F : Arv Z h a kk ty n vs d) (hd : decode bytes pc = .ok (.arraylength, 1)) (hp : pc + 1 = pc')
    (k : own_Got p e below P T (mkF m pc' ls (.int n :: st))) : own_Got p e below P T (mkF m pc ls (.ref a :: st)) := by
  subst hp
  obtain ⟨cl, Ar, -, S, N, -, -⟩ := F
  refine own_go (fun t q => X.arraylength hx (by rw [eT]; exact Ar.1) (State.isArrayOf_alike hZ.alike Ar.2.1) (g := mkF m pc ls (.ref a :: st)) rfl rfl (hb hby hd) t q) ?_
  rw [len_of S N]; exact k
theorem g_iaload (X : Stand p l e R s m args below meth c T locs cells slots) (hx : p.tables.exec = Jvm.exec) (hby : c.code = bytes) (hZ : Z.Warmed39 s.vm) (eT : T.heap = h) {a : Addr} {kk : ClassId} {n : Int32} {vs : List Value} {d v : Value} {j : Int32} (F : Arv Z h a kk .int n vs d) (hj : ¬ j < 0 ∧ j < n) (hv : vs.getD j.toNatClampNeg d = v) (hd : decode bytes pc = .ok (.iaload, 1)) (hp : pc + 1 = pc')
    (k : own_Got p e below P T (mkF m pc' ls (v :: st))) : own_Got p e below P T (mkF m pc ls (.int j :: .ref a :: st)) := by
  subst hp
  obtain ⟨cl, Ar, -, S, N, H, -⟩ := F
  exact own_go (fun t q => X.iaload hx (by rw [eT]; exact Ar.1) (State.isArrayOf_alike hZ.alike Ar.2.1) Ar.2.2 (inb_of S hj) (H.at (inb_of S hj) hv) (g := mkF m pc ls (.int j :: .ref a :: st)) rfl rfl (hb hby hd) t q) k
theorem g_caload (X : Stand p l e R s m args below meth c T locs cells slots) (hx : p.tables.exec = Jvm.exec) (hby : c.code = bytes) (hZ : Z.Warmed39 s.vm) (eT : T.heap = h) {a : Addr} {kk : ClassId} {n : Int32} {vs : List Value} {d v : Value} {j : Int32} (F : Arv Z h a kk .char n vs d) (hj : ¬ j < 0 ∧ j < n) (hv : vs.getD j.toNatClampNeg d = v) (hd : decode bytes pc = .ok (.caload, 1)) (hp : pc + 1 = pc')
    (k : own_Got p e below P T (mkF m pc' ls (v :: st))) : own_Got p e below P T (mkF m pc ls (.int j :: .ref a :: st)) := by
  subst hp
  obtain ⟨cl, Ar, -, S, N, H, -⟩ := F
  exact own_go (fun t q => X.caload hx (by rw [eT]; exact Ar.1) (State.isArrayOf_alike hZ.alike Ar.2.1) Ar.2.2 (inb_of S hj) (H.at (inb_of S hj) hv) (g := mkF m pc ls (.int j :: .ref a :: st)) rfl rfl (hb hby hd) t q) k
theorem g_laload (X : Stand p l e R s m args below meth c T locs cells slots) (hx : p.tables.exec = Jvm.exec) (hby : c.code = bytes) (hZ : Z.Warmed39 s.vm) (eT : T.heap = h) {a : Addr} {kk : ClassId} {n : Int32} {vs : List Value} {d v : Value} {j : Int32} (F : Arv Z h a kk .long n vs d) (hj : ¬ j < 0 ∧ j < n) (hv : vs.getD j.toNatClampNeg d = v) (hd : decode bytes pc = .ok (.laload, 1)) (hp : pc + 1 = pc')
    (k : own_Got p e below P T (mkF m pc' ls (v :: st))) : own_Got p e below P T (mkF m pc ls (.int j :: .ref a :: st)) := by
  subst hp
  obtain ⟨cl, Ar, -, S, N, H, -⟩ := F
  exact own_go (fun t q => X.laload hx (by rw [eT]; exact Ar.1) (State.isArrayOf_alike hZ.alike Ar.2.1) Ar.2.2 (inb_of S hj) (H.at (inb_of S hj) hv) (g := mkF m pc ls (.int j :: .ref a :: st)) rfl rfl (hb hby hd) t q) k
theorem g_baload (X : Stand p l e R s m args below meth c T locs cells slots) (hx : p.tables.exec = Jvm.exec) (hby : c.code = bytes) (hZ : Z.Warmed39 s.vm) (eT : T.heap = h) {a : Addr} {kk : ClassId} {n : Int32} {vs : List Value} {d v : Value} {j : Int32} (F : Arv Z h a kk .byte n vs d) (hj : ¬ j < 0 ∧ j < n) (hv : vs.getD j.toNatClampNeg d = v) (hd : decode bytes pc = .ok (.baload, 1)) (hp : pc + 1 = pc')
    (k : own_Got p e below P T (mkF m pc' ls (v :: st))) : own_Got p e below P T (mkF m pc ls (.int j :: .ref a :: st)) := by
  subst hp
  obtain ⟨cl, Ar, -, S, N, H, -⟩ := F
  exact own_go (fun t q => X.baloadBytes hx (by rw [eT]; exact Ar.1) (State.isArrayOf_alike hZ.alike Ar.2.1) Ar.2.2 (inb_of S hj) (H.at (inb_of S hj) hv) (g := mkF m pc ls (.int j :: .ref a :: st)) rfl rfl (hb hby hd) t q) k
theorem g_daload (X : Stand p l e R s m args below meth c T locs cells slots) (hx : p.tables.exec = Jvm.exec) (hby : c.code = bytes) (hZ : Z.Warmed39 s.vm) (eT : T.heap = h) {a : Addr} {kk : ClassId} {n : Int32} {vs : List Value} {d v : Value} {j : Int32} (F : Arv Z h a kk .double n vs d) (hj : ¬ j < 0 ∧ j < n) (hv : vs.getD j.toNatClampNeg d = v) (hd : decode bytes pc = .ok (.daload, 1)) (hp : pc + 1 = pc')
    (k : own_Got p e below P T (mkF m pc' ls (v :: st))) : own_Got p e below P T (mkF m pc ls (.int j :: .ref a :: st)) := by
  subst hp
  obtain ⟨cl, Ar, -, S, N, H, -⟩ := F
  exact own_go (fun t q => X.daload hx (by rw [eT]; exact Ar.1) (State.isArrayOf_alike hZ.alike Ar.2.1) Ar.2.2 (inb_of S hj) (H.at (inb_of S hj) hv) (g := mkF m pc ls (.int j :: .ref a :: st)) rfl rfl (hb hby hd) t q) k
theorem g_aaload (X : Stand p l e R s m args below meth c T locs cells slots) (hx : p.tables.exec = Jvm.exec) (hby : c.code = bytes) (hZ : Z.Warmed39 s.vm) (eT : T.heap = h) {a : Addr} {kk : ClassId} {ty : FieldType} {n : Int32} {vs : List Value} {d v : Value} {j : Int32} (F : Arv Z h a kk ty n vs d) (ht : ty.isReference = true) (hj : ¬ j < 0 ∧ j < n) (hv : vs.getD j.toNatClampNeg d = v) (hd : decode bytes pc = .ok (.aaload, 1)) (hp : pc + 1 = pc')
    (k : own_Got p e below P T (mkF m pc' ls (v :: st))) : own_Got p e below P T (mkF m pc ls (.int j :: .ref a :: st)) := by
  subst hp
  obtain ⟨cl, Ar, -, S, N, H, -⟩ := F
  exact own_go (fun t q => X.aaload hx (by rw [eT]; exact Ar.1) (State.isArrayOf_alike hZ.alike Ar.2.1) ht Ar.2.2 (inb_of S hj) (H.at (inb_of S hj) hv) (g := mkF m pc ls (.int j :: .ref a :: st)) rfl rfl (hb hby hd) t q) k
theorem a_iastore (X : Stand p l e R s m args below meth c T locs cells slots) (hx : p.tables.exec = Jvm.exec) (hby : c.code = bytes) (hZ : Z.Warmed39 s.vm) (eT : T.heap = h) {a : Addr} {kk : ClassId} {n : Int32} {vs : List Value} {d : Value} {j : Int32} (x : Int32) (i : Nat) (F : Arv Z h a kk .int n vs d) (hj : ¬ j < 0 ∧ j < n) (hi : j.toNatClampNeg = i) (hl : i < vs.length) (hd : decode bytes pc = .ok (.iastore, 1)) :
    ∃ T' h', Stand p l e R s m args below meth c T' (locs ++ [⟨a, j.toNatClampNeg⟩]) cells slots ∧ T'.heap = h' ∧ Wr h h' a j.toNatClampNeg (.int x) ∧ Arv Z h' a kk .int n (vs.set i (.int x)) d ∧ ∀ t, Steps p.tables e below (T'.setTop (mkF m (pc + 1) ls st)) t → Steps p.tables e below (T.setTop (mkF m pc ls (.int x :: .int j :: .ref a :: st))) t := by
  obtain ⟨cl, Ar, q1, S, N, H, Gf⟩ := F
  obtain ⟨T', h', X', e', W, k⟩ := stI X hx hZ eT Ar (j := j) (inb_of S hj) (g := mkF m pc ls (.int x :: .int j :: .ref a :: st)) rfl rfl (hb hby hd)
  exact ⟨T', h', X', e', W, Arv.set Ar q1 S N H Gf (rfl) W i hi hl, k⟩
theorem a_castore (X : Stand p l e R s m args below meth c T locs cells slots) (hx : p.tables.exec = Jvm.exec) (hby : c.code = bytes) (hZ : Z.Warmed39 s.vm) (eT : T.heap = h) {a : Addr} {kk : ClassId} {n : Int32} {vs : List Value} {d : Value} {j : Int32} (x : Int32) (i : Nat) (F : Arv Z h a kk .char n vs d) (hj : ¬ j < 0 ∧ j < n) (hi : j.toNatClampNeg = i) (hl : i < vs.length) (hd : decode bytes pc = .ok (.castore, 1)) :
    ∃ T' h', Stand p l e R s m args below meth c T' (locs ++ [⟨a, j.toNatClampNeg⟩]) cells slots ∧ T'.heap = h' ∧ Wr h h' a j.toNatClampNeg (.int (nar .char x)) ∧ Arv Z h' a kk .char n (vs.set i (.int (nar .char x))) d ∧ ∀ t, Steps p.tables e below (T'.setTop (mkF m (pc + 1) ls st)) t → Steps p.tables e below (T.setTop (mkF m pc ls (.int x :: .int j :: .ref a :: st))) t := by
  obtain ⟨cl, Ar, q1, S, N, H, Gf⟩ := F
  obtain ⟨T', h', X', e', W, k⟩ := stC X hx hZ eT Ar (j := j) (inb_of S hj) (g := mkF m pc ls (.int x :: .int j :: .ref a :: st)) rfl rfl (hb hby hd)
  exact ⟨T', h', X', e', W, Arv.set Ar q1 S N H Gf (fits_nar_char _) W i hi hl, k⟩
theorem a_bastore (X : Stand p l e R s m args below meth c T locs cells slots) (hx : p.tables.exec = Jvm.exec) (hby : c.code = bytes) (hZ : Z.Warmed39 s.vm) (eT : T.heap = h) {a : Addr} {kk : ClassId} {n : Int32} {vs : List Value} {d : Value} {j : Int32} (x : Int32) (i : Nat) (F : Arv Z h a kk .byte n vs d) (hj : ¬ j < 0 ∧ j < n) (hi : j.toNatClampNeg = i) (hl : i < vs.length) (hd : decode bytes pc = .ok (.bastore, 1)) :
    ∃ T' h', Stand p l e R s m args below meth c T' (locs ++ [⟨a, j.toNatClampNeg⟩]) cells slots ∧ T'.heap = h' ∧ Wr h h' a j.toNatClampNeg (.int (nar .byte x)) ∧ Arv Z h' a kk .byte n (vs.set i (.int (nar .byte x))) d ∧ ∀ t, Steps p.tables e below (T'.setTop (mkF m (pc + 1) ls st)) t → Steps p.tables e below (T.setTop (mkF m pc ls (.int x :: .int j :: .ref a :: st))) t := by
  obtain ⟨cl, Ar, q1, S, N, H, Gf⟩ := F
  obtain ⟨T', h', X', e', W, k⟩ := stB X hx hZ eT Ar (j := j) (inb_of S hj) (g := mkF m pc ls (.int x :: .int j :: .ref a :: st)) rfl rfl (hb hby hd)
  exact ⟨T', h', X', e', W, Arv.set Ar q1 S N H Gf (fits_nar_byte _) W i hi hl, k⟩
theorem a_lastore (X : Stand p l e R s m args below meth c T locs cells slots) (hx : p.tables.exec = Jvm.exec) (hby : c.code = bytes) (hZ : Z.Warmed39 s.vm) (eT : T.heap = h) {a : Addr} {kk : ClassId} {n : Int32} {vs : List Value} {d : Value} {j : Int32} (x : Int64) (i : Nat) (F : Arv Z h a kk .long n vs d) (hj : ¬ j < 0 ∧ j < n) (hi : j.toNatClampNeg = i) (hl : i < vs.length) (hd : decode bytes pc = .ok (.lastore, 1)) :
    ∃ T' h', Stand p l e R s m args below meth c T' (locs ++ [⟨a, j.toNatClampNeg⟩]) cells slots ∧ T'.heap = h' ∧ Wr h h' a j.toNatClampNeg (.long x) ∧ Arv Z h' a kk .long n (vs.set i (.long x)) d ∧ ∀ t, Steps p.tables e below (T'.setTop (mkF m (pc + 1) ls st)) t → Steps p.tables e below (T.setTop (mkF m pc ls (.long x :: .int j :: .ref a :: st))) t := by
  obtain ⟨cl, Ar, q1, S, N, H, Gf⟩ := F
  obtain ⟨T', h', X', e', W, k⟩ := stJ X hx hZ eT Ar (j := j) (inb_of S hj) (g := mkF m pc ls (.long x :: .int j :: .ref a :: st)) rfl rfl (hb hby hd)
  exact ⟨T', h', X', e', W, Arv.set Ar q1 S N H Gf (rfl) W i hi hl, k⟩
theorem a_dastore (X : Stand p l e R s m args below meth c T locs cells slots) (hx : p.tables.exec = Jvm.exec) (hby : c.code = bytes) (hZ : Z.Warmed39 s.vm) (eT : T.heap = h) {a : Addr} {kk : ClassId} {n : Int32} {vs : List Value} {d : Value} {j : Int32} (x : UInt64) (i : Nat) (F : Arv Z h a kk .double n vs d) (hj : ¬ j < 0 ∧ j < n) (hi : j.toNatClampNeg = i) (hl : i < vs.length) (hd : decode bytes pc = .ok (.dastore, 1)) :
    ∃ T' h', Stand p l e R s m args below meth c T' (locs ++ [⟨a, j.toNatClampNeg⟩]) cells slots ∧ T'.heap = h' ∧ Wr h h' a j.toNatClampNeg (.double x) ∧ Arv Z h' a kk .double n (vs.set i (.double x)) d ∧ ∀ t, Steps p.tables e below (T'.setTop (mkF m (pc + 1) ls st)) t → Steps p.tables e below (T.setTop (mkF m pc ls (.double x :: .int j :: .ref a :: st))) t := by
  obtain ⟨cl, Ar, q1, S, N, H, Gf⟩ := F
  obtain ⟨T', h', X', e', W, k⟩ := stD X hx hZ eT Ar (j := j) (inb_of S hj) (g := mkF m pc ls (.double x :: .int j :: .ref a :: st)) rfl rfl (hb hby hd)
  exact ⟨T', h', X', e', W, Arv.set Ar q1 S N H Gf (rfl) W i hi hl, k⟩
theorem a_aastore (X : Stand p l e R s m args below meth c T locs cells slots) (hx : p.tables.exec = Jvm.exec) (hby : c.code = bytes) (hZ : Z.Warmed39 s.vm) (eT : T.heap = h) {a b : Addr} {kk : ClassId} {Cn : String} {n : Int32} {vs : List Value} {d : Value} {j : Int32} (i : Nat) (F : Arv Z h a kk (.object Cn) n vs d) (O : Ovr Z kk Cn) (I : Ins Z h b Cn true) (hj : ¬ j < 0 ∧ j < n) (hi : j.toNatClampNeg = i) (hl : i < vs.length) (hd : decode bytes pc = .ok (.aastore, 1)) :
    ∃ T' h', Stand p l e R s m args below meth c T' (locs ++ [⟨a, j.toNatClampNeg⟩]) cells slots ∧ T'.heap = h' ∧ Wr h h' a j.toNatClampNeg (.ref b) ∧ Arv Z h' a kk (.object Cn) n (vs.set i (.ref b)) d ∧ ∀ t, Steps p.tables e below (T'.setTop (mkF m (pc + 1) ls st)) t → Steps p.tables e below (T.setTop (mkF m pc ls (.ref b :: .int j :: .ref a :: st))) t := by
  obtain ⟨cl, Ar, q1, S, N, H, Gf⟩ := F
  obtain ⟨T', h', X', e', W, k⟩ := stR X hx hZ eT Ar (j := j) (inb_of S hj) rfl (Sto.ofV Ar q1 O I) (g := mkF m pc ls (.ref b :: .int j :: .ref a :: st)) rfl rfl (hb hby hd)
  exact ⟨T', h', X', e', W, Arv.set Ar q1 S N H Gf rfl W i hi hl, k⟩
theorem own_stakeep {C n d : String} {v : Value} {K : String} {a : Addr} (F : Sta Z h C n d v) (k : Keep h h' [a]) (E : Exa Z h a K) : Sta Z h' C n d v := by
  obtain ⟨cf, i, kk, f, st, cell, h1, h2, h3, h4, h5, h6, h7⟩ := F
  refine ⟨cf, i, kk, f, st, cell, h1, h2, h3, h4, k.2.1 _ _ h5 (fun q => ?_), h6, h7⟩
  obtain ⟨c2, k2, g1, -, -, g4, -⟩ := E
  cases List.mem_singleton.mp q
  cases h5.symm.trans g1
  rw [g4] at h6; cases h6
theorem own_stakeep0 {C n d : String} {v : Value} (F : Sta Z h C n d v) (k : Keep h h' []) : Sta Z h' C n d v := by
  obtain ⟨cf, i, kk, f, st, cell, h1, h2, h3, h4, h5, h6, h7⟩ := F
  exact ⟨cf, i, kk, f, st, cell, h1, h2, h3, h4, k.2.1 _ _ h5 nin0, h6, h7⟩
theorem own_eqI {t : Term} {first : State} {o : Option Outcome} {idx : List Nat} {z : Int32} (hq : (Cond.eq t (.int z)).value args first o s idx = some true) : t.eval args first o idx s = some (.int z) := by
  obtain ⟨x, y, hx, hy, kk, -⟩ := cmp_v (Or.inl hq)
  have hy' : y = .int z := Option.some.inj (hy.symm.trans rfl)
  subst hy'
  cases x with
  | int x => simp only [Cond.value, hx, hy] at hq; simp at hq; rw [hx, hq]
  | _ => simp [Kin, Value.isRef] at kk
theorem own_eqR {t u : Term} {first : State} {o : Option Outcome} {idx : List Nat} {b : Addr} (hq : (Cond.eq t u).value args first o s idx = some true) (hu : u.eval args first o idx s = some (.ref b)) : t.eval args first o idx s = some (.ref b) := by
  obtain ⟨x, y, hx, hy, kk, kk2⟩ := cmp_v (Or.inl hq)
  cases hu.symm.trans hy
  have hr : x.isRef = true := kk2.2
  have := gotT (eq_R hx hu hr rfl) hq
  rw [hx, this]
theorem g_i2d (X : Stand p l e R s m args below meth c T locs cells slots) (hx : p.tables.exec = Jvm.exec) (hby : c.code = bytes) {x : Int32} (hd : decode bytes pc = .ok (.i2d, 1))  (hp : pc + 1 = pc')
    (k : own_Got p e below P T (mkF m pc' ls (.double (FP.i2d x) :: st))) : own_Got p e below P T (mkF m pc ls (.int x :: st)) := by
  subst hp; exact own_go (fun _ q => XS.i2dS X.here hx rfl (hb hby hd) rfl rfl q) k
theorem g_dcmp (X : Stand p l e R s m args below meth c T locs cells slots) (hx : p.tables.exec = Jvm.exec) (hby : c.code = bytes) {o : CmpOp} {x y : UInt64} (hd : decode bytes pc = .ok (.dcmp o, 1))  (hp : pc + 1 = pc')
    (k : own_Got p e below P T (mkF m pc' ls (.int (cmpValue (FP.dcmp x y) o) :: st))) : own_Got p e below P T (mkF m pc ls (.double y :: .double x :: st)) := by
  subst hp; exact own_go (fun _ q => XS.dcmpS X.here hx rfl (hb hby hd) rfl rfl q) k
theorem g_dconst0 (X : Stand p l e R s m args below meth c T locs cells slots) (hx : p.tables.exec = Jvm.exec) (hby : c.code = bytes) (z : UInt64) (hd : decode bytes pc = .ok (.dconst 0, 1)) (hz : FP.dconst0 = z) (hp : pc + 1 = pc')
    (k : own_Got p e below P T (mkF m pc' ls (.double z :: st))) : own_Got p e below P T (mkF m pc ls (st)) := by
  subst hp; exact own_go (fun _ q => XS.dconst0 X.here hx rfl (hb hby hd) hz q) k
theorem g_dadd (X : Stand p l e R s m args below meth c T locs cells slots) (hx : p.tables.exec = Jvm.exec) (hby : c.code = bytes) {x y : UInt64} (hd : decode bytes pc = .ok (.dadd, 1)) (hn : Jvm.Free.Fl.NoNaN64 (FP.dadd x y)) (hp : pc + 1 = pc')
    (k : own_Got p e below P T (mkF m pc' ls (.double (FP.dadd x y) :: st))) : own_Got p e below P T (mkF m pc ls (.double y :: .double x :: st)) := by
  subst hp; exact own_go (fun _ q => XS.daddS X.here hx rfl (hb hby hd) rfl hn rfl q) k
theorem g_dsub (X : Stand p l e R s m args below meth c T locs cells slots) (hx : p.tables.exec = Jvm.exec) (hby : c.code = bytes) {x y : UInt64} (hd : decode bytes pc = .ok (.dsub, 1)) (hn : Jvm.Free.Fl.NoNaN64 (FP.dsub x y)) (hp : pc + 1 = pc')
    (k : own_Got p e below P T (mkF m pc' ls (.double (FP.dsub x y) :: st))) : own_Got p e below P T (mkF m pc ls (.double y :: .double x :: st)) := by
  subst hp; exact own_go (fun _ q => XS.dsubS X.here hx rfl (hb hby hd) rfl hn rfl q) k
theorem g_dmul (X : Stand p l e R s m args below meth c T locs cells slots) (hx : p.tables.exec = Jvm.exec) (hby : c.code = bytes) {x y : UInt64} (hd : decode bytes pc = .ok (.dmul, 1)) (hn : Jvm.Free.Fl.NoNaN64 (FP.dmul x y)) (hp : pc + 1 = pc')
    (k : own_Got p e below P T (mkF m pc' ls (.double (FP.dmul x y) :: st))) : own_Got p e below P T (mkF m pc ls (.double y :: .double x :: st)) := by
  subst hp; exact own_go (fun _ q => XS.dmulS X.here hx rfl (hb hby hd) rfl hn rfl q) k
theorem g_ddiv (X : Stand p l e R s m args below meth c T locs cells slots) (hx : p.tables.exec = Jvm.exec) (hby : c.code = bytes) {x y : UInt64} (hd : decode bytes pc = .ok (.ddiv, 1)) (hn : Jvm.Free.Fl.NoNaN64 (FP.ddiv x y)) (hp : pc + 1 = pc')
    (k : own_Got p e below P T (mkF m pc' ls (.double (FP.ddiv x y) :: st))) : own_Got p e below P T (mkF m pc ls (.double y :: .double x :: st)) := by
  subst hp; exact own_go (fun _ q => XS.ddivS X.here hx rfl (hb hby hd) rfl hn rfl q) k
theorem own_narR {t : FieldType} {w : Value} (ht : t.isReference = true) (hw : w.isRef = true) : narrow t w = w := by rcases ref_cases hw with rfl | ⟨a, rfl⟩ <;> cases t <;> first | rfl | (cases ht)
theorem own_fitR {t : FieldType} {w : Value} (ht : t.isReference = true) (hw : w.isRef = true) : fits t w = true := by rcases ref_cases hw with rfl | ⟨a, rfl⟩ <;> cases t <;> first | rfl | (cases ht)
theorem own_nb (x : Int32) : nar .byte (x.toInt8.toInt32) = x.toInt8.toInt32 := by
  show (x.toInt8.toInt32).toInt8.toInt32 = x.toInt8.toInt32
  simp
theorem own_nc (x : Int32) : nar .char (x.toUInt32.toUInt16.toUInt32.toInt32) = x.toUInt32.toUInt16.toUInt32.toInt32 := by
  show (x.toUInt32.toUInt16.toUInt32.toInt32).toUInt32.toUInt16.toUInt32.toInt32 = _
  have q : ∀ u : UInt16, u.toUInt32.toInt32.toUInt32.toUInt16 = u := fun u => by simp
  rw [q]
end OwnKit
/-- the boxes' store: an array of Integers with 256 places, a reference in each -/
def own_IC (Z : State) (h : Heap) (wc : Addr) : Prop := ∃ cl : Cell, Arr Z h wc cl (.object "java/lang/Integer") ∧ ∀ j : Int32, ¬ j < 0 → j < 256 → ¬ (j < 0 ∨ cl.slots.size ≤ j.toNatClampNeg) ∧ ∃ r, cl.slots[j.toNatClampNeg]? = some (.ref r)
theorem own_IC_ext {Z : State} {h h' : Heap} {wc : Addr} (F : own_IC Z h wc) (E : Ext h h') : own_IC Z h' wc := by
  obtain ⟨cl, A, r⟩ := F; exact ⟨cl, A.ext E, r⟩
theorem own_IC_wr {Z : State} {h h' : Heap} {wc a : Addr} {sl : Nat} {v : Value} (F : own_IC Z h wc) (W : Wr h h' a sl v) (q : wc ≠ a) : own_IC Z h' wc := by
  obtain ⟨cl, A, r⟩ := F; exact ⟨cl, A.other W q, r⟩
theorem own_IC_keep {Z : State} {h h' : Heap} {wc : Addr} {ws : List Addr} (F : own_IC Z h wc) (K : Keep h h' ws) (q : wc ∉ ws) : own_IC Z h' wc := by
  obtain ⟨cl, A, r⟩ := F; exact ⟨cl, ⟨K.2.1 wc cl A.1 q, A.2⟩, r⟩
theorem own_ic_idx {x : Int32} (h1 : ¬ (x < (-128 : Int32))) (h2 : ¬ ((127 : Int32) < x)) : ¬ (x + (128 : Int32)) < 0 ∧ (x + (128 : Int32)) < 256 := by
  rw [Int32.lt_iff_toInt_lt] at h1 h2
  rw [Int32.lt_iff_toInt_lt, Int32.lt_iff_toInt_lt]
  have e1 : (-128 : Int32).toInt = -128 := by decide
  have e2 : (127 : Int32).toInt = 127 := by decide
  have e3 : (128 : Int32).toInt = 128 := by decide
  have e4 : (256 : Int32).toInt = 256 := by decide
  have e5 : (0 : Int32).toInt = 0 := by decide
  have := c_iadd x 128
  have := rng32 (x + 128)
  omega
section OwnBox
variable {p : Program} {l : Launch} {e : Env} {R : Room} {s : State} {m : MethodId} {args : Array Value} {below : List Frame} {meth : Method} {c : Code} {T T' : State} {locs : List Loc} {cells slots : Nat} {P : Outcome → State → Prop} {Q : Option Value → Heap → List Loc → Prop} {cC cS : Nat} {bytes : ByteArray} {ls : Array Slot} {st : List Value} {pc pc' : Nat} {g g' : JFrame} {Z : State} {a0 : Array Value} {h h' : Heap}
theorem g_ic (X : Stand p l e R s m args below meth c T locs cells slots) (hx : p.tables.exec = Jvm.exec) (hby : c.code = bytes) (hZ : Z.Warmed39 s.vm) (eT : T.heap = h) {wc : Addr} {j : Int32} (F : own_IC Z h wc) (h0 : ¬ j < 0) (h1 : j < 256) (hd : decode bytes pc = .ok (.aaload, 1)) (hp : pc + 1 = pc')
    (k : ∀ r : Addr, own_Got p e below P T (mkF m pc' ls (.ref r :: st))) : own_Got p e below P T (mkF m pc ls (.int j :: .ref wc :: st)) := by
  subst hp
  obtain ⟨cl, Ar, r⟩ := F
  obtain ⟨hin, a, ha⟩ := r j h0 h1
  exact own_go (fun t q => X.aaload hx (by rw [eT]; exact Ar.1) (State.isArrayOf_alike hZ.alike Ar.2.1) rfl Ar.2.2 hin ha (g := mkF m pc ls (.int j :: .ref wc :: st)) rfl rfl (hb hby hd) t q) (k a)
end OwnBox
theorem own_IC_start {s : State} {args : Array Value} {wc : Addr} {t : Term} {d : Jvm.Cond} (ht : ∀ idx, t.eval args s none idx s = some (.ref wc)) (h4 : (Cond.arrayOf t (.object "java/lang/Integer")).value args s none s [] = some true)
    (h6 : (Term.length t).eval args s none [] s = some (.int 256)) (h7 : (Cond.all t (Cond.and (Cond.exactly (Term.elem t (Term.index 0)) "java/lang/Integer") d)).value args s none s [] = some true) : own_IC s s.heap wc := by
  obtain ⟨cl, A⟩ := Arr.start (ht []) h4
  obtain ⟨a', cell, e1, e2, e3⟩ := Term.length_spec h6
  cases (ht []).symm.trans e1
  obtain ⟨hc, -⟩ := State.arrayAt?_spec e2
  cases A.1.symm.trans hc
  have h31 := SBG.length_lt (ht []) e2 h6
  have hsz : cl.slots.size = 256 := by
    have q : (256 : Int32) = cl.slots.size.toInt32 := by simpa using e3
    have q2 := congrArg Int32.toInt q
    rw [len_toInt h31] at q2
    have : (256 : Int32).toInt = 256 := by decide
    omega
  refine ⟨cl, A, fun j h0 h1 => ?_⟩
  have hj : j.toNatClampNeg < 256 := by
    rw [Int32.lt_iff_toInt_lt] at h1
    have : (256 : Int32).toInt = 256 := by decide
    simp only [Int32.toNatClampNeg]; omega
  have hin : ¬ (j < 0 ∨ cl.slots.size ≤ j.toNatClampNeg) := fun q => q.elim h0 (fun r => by omega)
  have hal := Cond.all_elim (ht []) e2 h7 j.toNatClampNeg (by omega)
  obtain ⟨hx, -⟩ := and_e hal
  obtain ⟨r, er⟩ := exa_v hx
  obtain ⟨-, ev⟩ := elem_in er (ht _) (idx_at h0) A.1
  exact ⟨hin, r, ev⟩

theorem d_num_0 : decode jdk_18_method_1_code 0 = .ok (.aload_n 0, 1) := by decide +kernel
theorem d_num_1 : decode jdk_18_method_1_code 1 = .ok (.invokespecial 1, 3) := by decide +kernel
theorem d_num_4 : decode jdk_18_method_1_code 4 = .ok (.return_, 1) := by decide +kernel
theorem pn0 : plainName "java/lang/Number" = true := by first | (simp [plainName, overriddenIn]; done) | decide +kernel
theorem ef_num (m : MethodId) (a0 : Addr) : entryFrame m #[(.ref a0)] 1 = mkF m 0 #[.val (.ref a0)] [] := by first | (simp [entryFrame, mkF, argsToLocals, Value.category]; done) | rfl
def Q_num (Z : State) (a0 : Addr) (h0 : Heap) (n0 : Nat) (v : Option Value) (h : Heap) (L : List Loc) : Prop := v = none ∧ Fr n0 L ∧ h = h0
set_option maxRecDepth 65536 in
set_option maxHeartbeats 40000000 in
theorem rm_num (l : Launch) (Z : State) (aT : Array Value) (hw : ∀ d ∈ tables_1, d.before aT Z = true) (ws : List Jvm.Cond) (a0 : Addr) (h0 : Heap) (n0 : Nat) (Z0 : n0 ≤ h0.size) :
    MetFree l (⟨"java/lang/Number", "<init>", "()V"⟩ : MethodName) (head1 (Jvm.Cond.code (⟨"java/lang/Number", "<init>", "()V"⟩ : MethodName) jdk_18_method_1_code 1 none :: ws) ({ frames := 1, cells := 0, slots := 0, locals := 12 } : Room)) (fun a U => a = #[(.ref a0)] ∧ Z.Warmed39 U.vm ∧ U.heap = h0) (fun _ _ _ _ _ => True) (fun _ U o U' => ∃ v L, o = .returned v ∧ Q_num Z a0 h0 n0 v U'.heap L ∧ FrameEnd U o U' L ({ frames := 1, cells := 0, slots := 0, locals := 12 } : Room).cells ({ frames := 1, cells := 0, slots := 0, locals := 12 } : Room).slots) := by
  refine MetFree.of_bodySF (plainFor_of_name pn0) hisR ?_
  intro p e s m args below meth c s₁ Bd hml0 hP hK
  obtain ⟨rfl, hZ, hh⟩ := hP
  have hx := Bd.exec
  have hby := Bd.bytes
  have hml : c.maxLocals = 1 := hml0
  have hown : s.vm.findClass "java/lang/Number" = some m.cls := findClass_of_methodNamed Bd.named
  have hnm := (name_of_methodNamed Bd.named Bd.method).1
  have hlk := Bd.notSynchronized
  have hrt := Bd.returns
  have X0 : Stand p l e ({ frames := 1, cells := 0, slots := 0, locals := 12 } : Room) s m #[(.ref a0)] below meth c s₁ [] 0 0 := Stand.of_body Bd
  have e0 : s₁.heap = h0 := by rw [← hh, Bd.state]; rfl
  have N0 := Fr.nil n0
  refine own_cast (P := own_End s (Q_num Z a0 h0 n0) ({ frames := 1, cells := 0, slots := 0, locals := 12 } : Room).cells ({ frames := 1, cells := 0, slots := 0, locals := 12 } : Room).slots) (ef_num m a0) ?_
  refine g_aloadN X0 hx hby d_num_0 rfl rfl (rfl : 0 + 1 = 1) ?_
  obtain ⟨T1, X1, e1, st1⟩ := initO X0 hx hZ hown (hw _ (List.mem_of_getElem? (i := 62) rfl)) (hw _ (List.mem_of_getElem? (i := 14) rfl)) (hw _ (List.mem_of_getElem? (i := 15) rfl)) e0 (g := (mkF m 1 #[.val (.ref a0)] [(.ref a0)])) rfl (by rw [hml]; rfl) rfl (hb hby d_num_1) (by decide) (W := 0) (by show 2 * 0 + _ ≤ _; exact Nat.le_of_eq rfl) (by decide)
  refine own_go st1 ?_
  show own_Got p e below _ T1 (mkF m 4 #[.val (.ref a0)] [])
  refine own_retV X1 hx hby hlk hrt d_num_4 (by decide) (by decide) ?_
  show Q_num Z a0 h0 n0 _ T1.heap _
  exact ⟨rfl, N0, e1⟩
theorem d_igi_0 : decode jdk_33_method_23_code 0 = .ok (.aload_n 0, 1) := by decide +kernel
theorem d_igi_1 : decode jdk_33_method_23_code 1 = .ok (.invokespecial 202, 3) := by decide +kernel
theorem d_igi_4 : decode jdk_33_method_23_code 4 = .ok (.aload_n 0, 1) := by decide +kernel
theorem d_igi_5 : decode jdk_33_method_23_code 5 = .ok (.iload_n 1, 1) := by decide +kernel
theorem d_igi_6 : decode jdk_33_method_23_code 6 = .ok (.putfield 205, 3) := by decide +kernel
theorem d_igi_9 : decode jdk_33_method_23_code 9 = .ok (.return_, 1) := by decide +kernel
theorem pn1 : plainName "java/lang/Integer" = true := by first | (simp [plainName, overriddenIn]; done) | decide +kernel
theorem pd0 : parseMethodDescriptor "()V" = some ⟨[], none⟩ := by decide +kernel
theorem ef_igi (m : MethodId) (a0 : Addr) (x1 : Int32) : entryFrame m #[(.ref a0), (.int x1)] 2 = mkF m 0 #[.val (.ref a0), .val (.int x1)] [] := by first | (simp [entryFrame, mkF, argsToLocals, Value.category]; done) | rfl
def Q_igi (Z : State) (a0 : Addr) (x1 : Int32) (h0 : Heap) (n0 : Nat) (v : Option Value) (h : Heap) (L : List Loc) : Prop := v = none ∧ Fr n0 L ∧ Keep h0 h [a0] ∧ Exa Z h a0 "java/lang/Integer"
set_option maxRecDepth 65536 in
set_option maxHeartbeats 40000000 in
theorem rm_igi (l : Launch) (Z : State) (aT : Array Value) (hw : ∀ d ∈ tables_1, d.before aT Z = true) (ws : List Jvm.Cond) (a0 : Addr) (x1 : Int32) (h0 : Heap) (n0 : Nat) (Z0 : n0 ≤ h0.size) (hp0 : Exa Z h0 a0 "java/lang/Integer") (hp1 : Fld Z h0 a0 "java/lang/Integer" "value" "I" (.int (0 : Int32))) (hp2 : n0 ≤ a0) :
    MetFree l (⟨"java/lang/Integer", "<init>", "(I)V"⟩ : MethodName) (head1 (Jvm.Cond.code (⟨"java/lang/Integer", "<init>", "(I)V"⟩ : MethodName) jdk_33_method_23_code 2 none :: ws) ({ frames := 2, cells := 0, slots := 0, locals := 24 } : Room)) (fun a U => a = #[(.ref a0), (.int x1)] ∧ Z.Warmed39 U.vm ∧ U.heap = h0) (fun _ _ _ _ _ => True) (fun _ U o U' => ∃ v L, o = .returned v ∧ Q_igi Z a0 x1 h0 n0 v U'.heap L ∧ FrameEnd U o U' L ({ frames := 2, cells := 0, slots := 0, locals := 24 } : Room).cells ({ frames := 2, cells := 0, slots := 0, locals := 24 } : Room).slots) := by
  refine MetFree.of_bodySF (plainFor_of_name pn1) hisR ?_
  intro p e s m args below meth c s₁ Bd hml0 hP hK
  obtain ⟨rfl, hZ, hh⟩ := hP
  have hx := Bd.exec
  have hby := Bd.bytes
  have hml : c.maxLocals = 2 := hml0
  have hown : s.vm.findClass "java/lang/Integer" = some m.cls := findClass_of_methodNamed Bd.named
  have hnm := (name_of_methodNamed Bd.named Bd.method).1
  have hlk := Bd.notSynchronized
  have hrt := Bd.returns
  have X0 : Stand p l e ({ frames := 2, cells := 0, slots := 0, locals := 24 } : Room) s m #[(.ref a0), (.int x1)] below meth c s₁ [] 0 0 := Stand.of_body Bd
  have e0 : s₁.heap = h0 := by rw [← hh, Bd.state]; rfl
  have N0 := Fr.nil n0
  refine own_cast (P := own_End s (Q_igi Z a0 x1 h0 n0) ({ frames := 2, cells := 0, slots := 0, locals := 24 } : Room).cells ({ frames := 2, cells := 0, slots := 0, locals := 24 } : Room).slots) (ef_igi m a0 x1) ?_
  refine g_aloadN X0 hx hby d_igi_0 rfl rfl (rfl : 0 + 1 = 1) ?_
  obtain ⟨_, _, ⟨T2, L2, k2, n2⟩, -, X2, ⟨Lc2, hQ2, l2, y2, z2⟩, st2⟩ := X0.specialBack hx (y := (⟨"java/lang/Number", "<init>", "()V"⟩ : MethodName)) rfl hown (mvT hZ (hw _ (List.mem_of_getElem? (i := 56) rfl))) (mvT hZ (hw _ (List.mem_of_getElem? (i := 57) rfl))) (mvT hZ (hw _ (List.mem_of_getElem? (i := 61) rfl))) (by decide) (backOf (W := 0) (rm_num l Z aT hw [] a0 h0 n0 Z0) hZ (hw _ (List.mem_of_getElem? (i := 61) rfl)) (hw _ (List.mem_of_getElem? (i := 60) rfl)) (by decide) (by decide)) (g := (mkF m 1 #[.val (.ref a0), .val (.int x1)] [(.ref a0)])) rfl (by rw [hml]; rfl) (Steps.refl _) (a := a0) (argsL := []) (rest := []) (lenOf pd0 rfl) rfl (by show 2 * 0 + _ ≤ _; exact Nat.le_of_eq rfl) (hb hby d_igi_1) (fun _ _ => ⟨rfl, e0, (by decide : 0 + 0 ≤ _), (by decide : 0 + 0 ≤ _)⟩)
  dsimp only [Pt.U, Pt.locs, Pt.cells, Pt.slots] at X2 l2 y2 z2 st2 hQ2
  subst l2 y2 z2
  obtain ⟨rfl, N2q, eq2⟩ := hQ2
  have N2 := Fr.app N0 N2q
  refine own_tr st2 ?_
  show own_Got p e below _ T2 (mkF m 4 #[.val (.ref a0), .val (.int x1)] [])
  refine g_aloadN X2 hx hby d_igi_4 rfl rfl (rfl : 4 + 1 = 5) ?_
  refine g_iloadN X2 hx hby d_igi_5 rfl (rfl : 5 + 1 = 6) ?_
  obtain ⟨T3, h3, X3, e3, W3, st3⟩ := putF X2 hx hZ hown (host := "") (Or.inl (hw _ (List.mem_of_getElem? (i := 63) rfl))) Via.refl eq2 hp1 hp0 (Or.inr ⟨(hw _ (List.mem_of_getElem? (i := 64) rfl)), rfl, hnm⟩) (hw _ (List.mem_of_getElem? (i := 51) rfl)) (ty := .int) (by decide) rfl rfl (g := (mkF m 6 #[.val (.ref a0), .val (.int x1)] [(.int x1), (.ref a0)])) rfl rfl (hb hby d_igi_6)
  have Z3 : n0 ≤ h3.size := Nat.le_trans Z0 (Keep.of_wr W3).1
  have N3 := Fr.snoc X3 N2 hp2
  have K3 : Keep h0 h3 [a0] := (Keep.refl h0 [a0]).wr W3 (Or.inl (List.mem_of_getElem? (i := 0) rfl))
  have f3 : Fld Z h3 a0 "java/lang/Integer" "value" "I" (.int x1) := Fld.same W3 hp1
  refine own_go st3 ?_
  show own_Got p e below _ T3 (mkF m 9 #[.val (.ref a0), .val (.int x1)] [])
  have f4 : Exa Z h3 a0 "java/lang/Integer" := (Exa.wr W3 hp0)
  refine own_retV X3 hx hby hlk hrt d_igi_9 (by decide) (by decide) ?_
  show Q_igi Z a0 x1 h0 n0 _ T3.heap _
  rw [e3]
  exact ⟨rfl, N3, K3, f4⟩
theorem d_vof_0 : decode jdk_33_method_22_code 0 = .ok (.iload_n 0, 1) := by decide +kernel
theorem d_vof_1 : decode jdk_33_method_22_code 1 = .ok (.bipush (-128), 2) := by decide +kernel
theorem d_vof_3 : decode jdk_33_method_22_code 3 = .ok (.if_icmp .lt 20, 3) := by decide +kernel
theorem d_vof_6 : decode jdk_33_method_22_code 6 = .ok (.iload_n 0, 1) := by decide +kernel
theorem d_vof_7 : decode jdk_33_method_22_code 7 = .ok (.getstatic 191, 3) := by decide +kernel
theorem d_vof_10 : decode jdk_33_method_22_code 10 = .ok (.if_icmp .gt 13, 3) := by decide +kernel
theorem d_vof_13 : decode jdk_33_method_22_code 13 = .ok (.getstatic 195, 3) := by decide +kernel
theorem d_vof_16 : decode jdk_33_method_22_code 16 = .ok (.iload_n 0, 1) := by decide +kernel
theorem d_vof_17 : decode jdk_33_method_22_code 17 = .ok (.sipush 128, 3) := by decide +kernel
theorem d_vof_20 : decode jdk_33_method_22_code 20 = .ok (.iadd, 1) := by decide +kernel
theorem d_vof_21 : decode jdk_33_method_22_code 21 = .ok (.aaload, 1) := by decide +kernel
theorem d_vof_22 : decode jdk_33_method_22_code 22 = .ok (.areturn, 1) := by decide +kernel
theorem d_vof_23 : decode jdk_33_method_22_code 23 = .ok (.new 1, 3) := by decide +kernel
theorem d_vof_26 : decode jdk_33_method_22_code 26 = .ok (.dup, 1) := by decide +kernel
theorem d_vof_27 : decode jdk_33_method_22_code 27 = .ok (.iload_n 0, 1) := by decide +kernel
theorem d_vof_28 : decode jdk_33_method_22_code 28 = .ok (.invokespecial 199, 3) := by decide +kernel
theorem d_vof_31 : decode jdk_33_method_22_code 31 = .ok (.areturn, 1) := by decide +kernel
theorem pd1 : parseMethodDescriptor "(I)V" = some ⟨[.int], none⟩ := by decide +kernel
theorem ef_vof (m : MethodId) (x0 : Int32) : entryFrame m #[(.int x0)] 1 = mkF m 0 #[.val (.int x0)] [] := by first | (simp [entryFrame, mkF, argsToLocals, Value.category]; done) | rfl
def Q_vof (Z : State) (x0 : Int32) (wc : Addr) (h0 : Heap) (n0 : Nat) (v : Option Value) (h : Heap) (L : List Loc) : Prop := ∃ (r : Addr), v = some (.ref r) ∧ Fr n0 L ∧ Keep h0 h []
set_option maxRecDepth 65536 in
set_option maxHeartbeats 40000000 in
theorem rm_vof (l : Launch) (Z : State) (aT : Array Value) (hw : ∀ d ∈ tables_1, d.before aT Z = true) (ws : List Jvm.Cond) (x0 : Int32) (wc : Addr) (h0 : Heap) (n0 : Nat) (Z0 : n0 ≤ h0.size) (hp0 : Sta Z h0 "java/lang/Integer$IntegerCache" "high" "I" (.int (127 : Int32))) (hp1 : Sta Z h0 "java/lang/Integer$IntegerCache" "cache" "[Ljava/lang/Integer;" (.ref wc)) (hp2 : Exa Z h0 wc "[Ljava/lang/Integer;") (hp3 : own_IC Z h0 wc) :
    MetFree l (⟨"java/lang/Integer", "valueOf", "(I)Ljava/lang/Integer;"⟩ : MethodName) (head1 (Jvm.Cond.code (⟨"java/lang/Integer", "valueOf", "(I)Ljava/lang/Integer;"⟩ : MethodName) jdk_33_method_22_code 1 (some (.object "java/lang/Integer")) :: ws) ({ frames := 3, cells := 1, slots := 1, locals := 38 } : Room)) (fun a U => a = #[(.int x0)] ∧ Z.Warmed39 U.vm ∧ U.heap = h0) (fun _ _ _ _ _ => True) (fun _ U o U' => ∃ v L, o = .returned v ∧ Q_vof Z x0 wc h0 n0 v U'.heap L ∧ FrameEnd U o U' L ({ frames := 3, cells := 1, slots := 1, locals := 38 } : Room).cells ({ frames := 3, cells := 1, slots := 1, locals := 38 } : Room).slots) := by
  refine MetFree.of_bodySF (plainFor_of_name pn1) hisR ?_
  intro p e s m args below meth c s₁ Bd hml0 hP hK
  obtain ⟨rfl, hZ, hh⟩ := hP
  have hx := Bd.exec
  have hby := Bd.bytes
  have hml : c.maxLocals = 1 := hml0
  have hown : s.vm.findClass "java/lang/Integer" = some m.cls := findClass_of_methodNamed Bd.named
  have hnm := (name_of_methodNamed Bd.named Bd.method).1
  have hlk := Bd.notSynchronized
  have hrt := Bd.returns
  have X0 : Stand p l e ({ frames := 3, cells := 1, slots := 1, locals := 38 } : Room) s m #[(.int x0)] below meth c s₁ [] 0 0 := Stand.of_body Bd
  have e0 : s₁.heap = h0 := by rw [← hh, Bd.state]; rfl
  have N0 := Fr.nil n0
  refine own_cast (P := own_End s (Q_vof Z x0 wc h0 n0) ({ frames := 3, cells := 1, slots := 1, locals := 38 } : Room).cells ({ frames := 3, cells := 1, slots := 1, locals := 38 } : Room).slots) (ef_vof m x0) ?_
  refine g_iloadN X0 hx hby d_vof_0 rfl (rfl : 0 + 1 = 1) ?_
  refine g_bipush X0 hx hby (-128 : Int32) d_vof_1 (by decide) (rfl : 1 + 2 = 3) ?_
  by_cases c5 : x0 < (-128 : Int32)
  · refine g_icT X0 hx hby d_vof_3 (tlt c5).1 (by decide) (pc' := 23) (by decide) ?_
    obtain ⟨T6, h6, X6, e6, E6, A6, D6, -, st6⟩ := newO X0 hx hZ hown (hw _ (List.mem_of_getElem? (i := 50) rfl)) (hw _ (List.mem_of_getElem? (i := 51) rfl)) (hw _ (List.mem_of_getElem? (i := 5) rfl)) e0 (g := (mkF m 23 #[.val (.int x0)] [])) rfl (hb hby d_vof_23) (by decide) (by decide)
    obtain ⟨b6, g6⟩ : ∃ z, z = h0.size := ⟨_, rfl⟩
    rw [← g6] at A6 D6 st6
    have ne7 : wc ≠ b6 := Nat.ne_of_lt (Nat.lt_of_lt_of_le (hp2).lt (Nat.le_of_eq g6.symm))
    have Z6 : n0 ≤ h6.size := Nat.le_trans Z0 E6.1
    have K6 : Keep h0 h6 [] := (Keep.refl h0 []).ext E6
    have ge6 : n0 ≤ b6 := Nat.le_trans Z0 (Nat.le_of_eq g6.symm)
    have sz6 : h0.size ≤ b6 := Nat.le_trans (Keep.refl h0 []).1 (Nat.le_of_eq g6.symm)
    have f8 : Fld Z h6 b6 "java/lang/Integer" "value" "I" (.int (0 : Int32)) := D6 (Or.inr (hw _ (List.mem_of_getElem? (i := 64) rfl))) (ty := .int) (by decide)
    refine own_go st6 ?_
    show own_Got p e below _ T6 (mkF m 26 #[.val (.int x0)] [(.ref b6)])
    refine g_dup X6 hx hby d_vof_26 rfl (rfl : 26 + 1 = 27) ?_
    refine g_iloadN X6 hx hby d_vof_27 rfl (rfl : 27 + 1 = 28) ?_
    have f10 : Exa Z h6 wc "[Ljava/lang/Integer;" := (Exa.ext E6 hp2)
    obtain ⟨_, _, ⟨T9, L9, k9, n9⟩, -, X9, ⟨Lc9, hQ9, l9, y9, z9⟩, st9⟩ := X6.specialBack hx (y := (⟨"java/lang/Integer", "<init>", "(I)V"⟩ : MethodName)) rfl hown (mvT hZ (hw _ (List.mem_of_getElem? (i := 52) rfl))) (mvT hZ (hw _ (List.mem_of_getElem? (i := 53) rfl))) (mvT hZ (hw _ (List.mem_of_getElem? (i := 55) rfl))) (by decide) (backOf (W := 1) (rm_igi l Z aT hw [] b6 x0 h6 n0 Z6 A6 f8 ge6) hZ (hw _ (List.mem_of_getElem? (i := 55) rfl)) (hw _ (List.mem_of_getElem? (i := 5) rfl)) (by decide) (by decide)) (g := (mkF m 28 #[.val (.int x0)] [(.int x0), (.ref b6), (.ref b6)])) rfl (by rw [hml]; rfl) (Steps.refl _) (a := b6) (argsL := [(.int x0)]) (rest := [(.ref b6)]) (lenOf pd1 rfl) rfl (by show 2 * 0 + _ ≤ _; exact Nat.le_of_eq rfl) (hb hby d_vof_28) (fun _ _ => ⟨rfl, e6, (by decide : 1 + 0 ≤ _), (by decide : 1 + 0 ≤ _)⟩)
    dsimp only [Pt.U, Pt.locs, Pt.cells, Pt.slots] at X9 l9 y9 z9 st9 hQ9
    subst l9 y9 z9
    obtain ⟨rfl, N9q, K9, q9_0⟩ := hQ9
    have N9 := Fr.app N0 N9q
    have Z9 : n0 ≤ T9.heap.size := Nat.le_trans Z6 K9.1
    have KC9 : Keep h0 T9.heap [] := K6.trans K9 (allS (Or.inr sz6) all0)
    refine own_tr st9 ?_
    show own_Got p e below _ T9 (mkF m 31 #[.val (.int x0)] [(.ref b6)])
    refine own_retR X9 hx hby hlk hrt rfl d_vof_31 (by decide) (by decide) rfl ?_
    show Q_vof Z x0 wc h0 n0 _ T9.heap _
    exact ⟨b6, rfl, N9, KC9⟩
  · refine g_icF X0 hx hby d_vof_3 (flt c5).1 (rfl : 3 + 3 = 6) ?_
    refine g_iloadN X0 hx hby d_vof_6 rfl (rfl : 6 + 1 = 7) ?_
    obtain ⟨T11, X11, e11, st11⟩ := getS2 X0 hx hZ hown (host := "") (Or.inl (hw _ (List.mem_of_getElem? (i := 7) rfl))) Via.refl e0 hp0 (g := (mkF m 7 #[.val (.int x0)] [(.int x0)])) rfl (hb hby d_vof_7)
    refine own_go st11 ?_
    show own_Got p e below _ T11 (mkF m 10 #[.val (.int x0)] [(.int (127 : Int32)), (.int x0)])
    by_cases c12 : (127 : Int32) < x0
    · refine g_icT X11 hx hby d_vof_10 (tlt c12).2.2.1 (by decide) (pc' := 23) (by decide) ?_
      obtain ⟨T13, h13, X13, e13, E13, A13, D13, -, st13⟩ := newO X11 hx hZ hown (hw _ (List.mem_of_getElem? (i := 50) rfl)) (hw _ (List.mem_of_getElem? (i := 51) rfl)) (hw _ (List.mem_of_getElem? (i := 5) rfl)) e11 (g := (mkF m 23 #[.val (.int x0)] [])) rfl (hb hby d_vof_23) (by decide) (by decide)
      obtain ⟨b13, g13⟩ : ∃ z, z = h0.size := ⟨_, rfl⟩
      rw [← g13] at A13 D13 st13
      have ne14 : wc ≠ b13 := Nat.ne_of_lt (Nat.lt_of_lt_of_le (hp2).lt (Nat.le_of_eq g13.symm))
      have Z13 : n0 ≤ h13.size := Nat.le_trans Z0 E13.1
      have K13 : Keep h0 h13 [] := (Keep.refl h0 []).ext E13
      have ge13 : n0 ≤ b13 := Nat.le_trans Z0 (Nat.le_of_eq g13.symm)
      have sz13 : h0.size ≤ b13 := Nat.le_trans (Keep.refl h0 []).1 (Nat.le_of_eq g13.symm)
      have f15 : Fld Z h13 b13 "java/lang/Integer" "value" "I" (.int (0 : Int32)) := D13 (Or.inr (hw _ (List.mem_of_getElem? (i := 64) rfl))) (ty := .int) (by decide)
      refine own_go st13 ?_
      show own_Got p e below _ T13 (mkF m 26 #[.val (.int x0)] [(.ref b13)])
      refine g_dup X13 hx hby d_vof_26 rfl (rfl : 26 + 1 = 27) ?_
      refine g_iloadN X13 hx hby d_vof_27 rfl (rfl : 27 + 1 = 28) ?_
      have f17 : Exa Z h13 wc "[Ljava/lang/Integer;" := (Exa.ext E13 hp2)
      obtain ⟨_, _, ⟨T16, L16, k16, n16⟩, -, X16, ⟨Lc16, hQ16, l16, y16, z16⟩, st16⟩ := X13.specialBack hx (y := (⟨"java/lang/Integer", "<init>", "(I)V"⟩ : MethodName)) rfl hown (mvT hZ (hw _ (List.mem_of_getElem? (i := 52) rfl))) (mvT hZ (hw _ (List.mem_of_getElem? (i := 53) rfl))) (mvT hZ (hw _ (List.mem_of_getElem? (i := 55) rfl))) (by decide) (backOf (W := 1) (rm_igi l Z aT hw [] b13 x0 h13 n0 Z13 A13 f15 ge13) hZ (hw _ (List.mem_of_getElem? (i := 55) rfl)) (hw _ (List.mem_of_getElem? (i := 5) rfl)) (by decide) (by decide)) (g := (mkF m 28 #[.val (.int x0)] [(.int x0), (.ref b13), (.ref b13)])) rfl (by rw [hml]; rfl) (Steps.refl _) (a := b13) (argsL := [(.int x0)]) (rest := [(.ref b13)]) (lenOf pd1 rfl) rfl (by show 2 * 0 + _ ≤ _; exact Nat.le_of_eq rfl) (hb hby d_vof_28) (fun _ _ => ⟨rfl, e13, (by decide : 1 + 0 ≤ _), (by decide : 1 + 0 ≤ _)⟩)
      dsimp only [Pt.U, Pt.locs, Pt.cells, Pt.slots] at X16 l16 y16 z16 st16 hQ16
      subst l16 y16 z16
      obtain ⟨rfl, N16q, K16, q16_0⟩ := hQ16
      have N16 := Fr.app N0 N16q
      have Z16 : n0 ≤ T16.heap.size := Nat.le_trans Z13 K16.1
      have KC16 : Keep h0 T16.heap [] := K13.trans K16 (allS (Or.inr sz13) all0)
      refine own_tr st16 ?_
      show own_Got p e below _ T16 (mkF m 31 #[.val (.int x0)] [(.ref b13)])
      refine own_retR X16 hx hby hlk hrt rfl d_vof_31 (by decide) (by decide) rfl ?_
      show Q_vof Z x0 wc h0 n0 _ T16.heap _
      exact ⟨b13, rfl, N16, KC16⟩
    · refine g_icF X11 hx hby d_vof_10 (flt c12).2.2.1 (rfl : 10 + 3 = 13) ?_
      obtain ⟨T18, X18, e18, st18⟩ := getS2 X11 hx hZ hown (host := "") (Or.inl (hw _ (List.mem_of_getElem? (i := 9) rfl))) Via.refl e11 hp1 (g := (mkF m 13 #[.val (.int x0)] [])) rfl (hb hby d_vof_13)
      refine own_go st18 ?_
      show own_Got p e below _ T18 (mkF m 16 #[.val (.int x0)] [(.ref wc)])
      refine g_iloadN X18 hx hby d_vof_16 rfl (rfl : 16 + 1 = 17) ?_
      refine g_sipush X18 hx hby (128 : Int32) d_vof_17 (by decide) (rfl : 17 + 3 = 20) ?_
      refine g_iadd X18 hx hby d_vof_20 (rfl : 20 + 1 = 21) ?_
      refine g_ic X18 hx hby hZ e18 hp3 (own_ic_idx c5 c12).1 (own_ic_idx c5 c12).2 d_vof_21 (rfl : 21 + 1 = 22) ?_
      intro r19
      refine own_retR X18 hx hby hlk hrt rfl d_vof_22 (by decide) (by decide) rfl ?_
      show Q_vof Z x0 wc h0 n0 _ T18.heap _
      rw [e18]
      exact ⟨r19, rfl, N0, (Keep.refl h0 [])⟩
theorem d_ini_0 : decode prog_4_method_1_code 0 = .ok (.aload_n 0, 1) := by decide +kernel
theorem d_ini_1 : decode prog_4_method_1_code 1 = .ok (.invokespecial 3, 3) := by decide +kernel
theorem d_ini_4 : decode prog_4_method_1_code 4 = .ok (.aload_n 0, 1) := by decide +kernel
theorem d_ini_5 : decode prog_4_method_1_code 5 = .ok (.aload_n 1, 1) := by decide +kernel
theorem d_ini_6 : decode prog_4_method_1_code 6 = .ok (.putfield 9, 3) := by decide +kernel
theorem d_ini_9 : decode prog_4_method_1_code 9 = .ok (.aload_n 0, 1) := by decide +kernel
theorem d_ini_10 : decode prog_4_method_1_code 10 = .ok (.aload_n 2, 1) := by decide +kernel
theorem d_ini_11 : decode prog_4_method_1_code 11 = .ok (.putfield 15, 3) := by decide +kernel
theorem d_ini_14 : decode prog_4_method_1_code 14 = .ok (.aload_n 0, 1) := by decide +kernel
theorem d_ini_15 : decode prog_4_method_1_code 15 = .ok (.ldc 18, 2) := by decide +kernel
theorem d_ini_17 : decode prog_4_method_1_code 17 = .ok (.putfield 19, 3) := by decide +kernel
theorem d_ini_20 : decode prog_4_method_1_code 20 = .ok (.return_, 1) := by decide +kernel
theorem pn2 : plainName "com/example/leanbough/leanbough/LlrbTreeMap$Node" = true := by first | (simp [plainName, overriddenIn]; done) | decide +kernel
theorem ef_ini (m : MethodId) (a0 : Addr) (a1 : Addr) (a2 : Addr) : entryFrame m #[(.ref a0), (.ref a1), (.ref a2)] 3 = mkF m 0 #[.val (.ref a0), .val (.ref a1), .val (.ref a2)] [] := by first | (simp [entryFrame, mkF, argsToLocals, Value.category]; done) | rfl
def Q_ini (Z : State) (a0 : Addr) (a1 : Addr) (a2 : Addr) (h0 : Heap) (n0 : Nat) (v : Option Value) (h : Heap) (L : List Loc) : Prop := v = none ∧ Fr n0 L ∧ Keep h0 h [a0] ∧ Exa Z h a0 "com/example/leanbough/leanbough/LlrbTreeMap$Node" ∧ Fld Z h a0 "com/example/leanbough/leanbough/LlrbTreeMap$Node" "colourAndLeftCount" "I" (.int (-2147483648 : Int32))
set_option maxRecDepth 65536 in
set_option maxHeartbeats 40000000 in
theorem rm_ini (l : Launch) (Z : State) (aT : Array Value) (hw : ∀ d ∈ tables_1, d.before aT Z = true) (ws : List Jvm.Cond) (a0 : Addr) (a1 : Addr) (a2 : Addr) (h0 : Heap) (n0 : Nat) (Z0 : n0 ≤ h0.size) (hp0 : Exa Z h0 a0 "com/example/leanbough/leanbough/LlrbTreeMap$Node") (hp1 : Fld Z h0 a0 "com/example/leanbough/leanbough/LlrbTreeMap$Node" "key" "Ljava/lang/Object;" .null) (hp2 : Fld Z h0 a0 "com/example/leanbough/leanbough/LlrbTreeMap$Node" "value" "Ljava/lang/Object;" .null) (hp3 : Fld Z h0 a0 "com/example/leanbough/leanbough/LlrbTreeMap$Node" "colourAndLeftCount" "I" (.int (0 : Int32))) (hp4 : n0 ≤ a0) :
    MetFree l (⟨"com/example/leanbough/leanbough/LlrbTreeMap$Node", "<init>", "(Ljava/lang/Object;Ljava/lang/Object;)V"⟩ : MethodName) (head1 (Jvm.Cond.code (⟨"com/example/leanbough/leanbough/LlrbTreeMap$Node", "<init>", "(Ljava/lang/Object;Ljava/lang/Object;)V"⟩ : MethodName) prog_4_method_1_code 3 none :: ws) ({ frames := 1, cells := 0, slots := 0, locals := 12 } : Room)) (fun a U => a = #[(.ref a0), (.ref a1), (.ref a2)] ∧ Z.Warmed39 U.vm ∧ U.heap = h0) (fun _ _ _ _ _ => True) (fun _ U o U' => ∃ v L, o = .returned v ∧ Q_ini Z a0 a1 a2 h0 n0 v U'.heap L ∧ FrameEnd U o U' L ({ frames := 1, cells := 0, slots := 0, locals := 12 } : Room).cells ({ frames := 1, cells := 0, slots := 0, locals := 12 } : Room).slots) := by
  refine MetFree.of_bodySF (plainFor_of_name pn2) hisR ?_
  intro p e s m args below meth c s₁ Bd hml0 hP hK
  obtain ⟨rfl, hZ, hh⟩ := hP
  have hx := Bd.exec
  have hby := Bd.bytes
  have hml : c.maxLocals = 3 := hml0
  have hown : s.vm.findClass "com/example/leanbough/leanbough/LlrbTreeMap$Node" = some m.cls := findClass_of_methodNamed Bd.named
  have hnm := (name_of_methodNamed Bd.named Bd.method).1
  have hlk := Bd.notSynchronized
  have hrt := Bd.returns
  have X0 : Stand p l e ({ frames := 1, cells := 0, slots := 0, locals := 12 } : Room) s m #[(.ref a0), (.ref a1), (.ref a2)] below meth c s₁ [] 0 0 := Stand.of_body Bd
  have e0 : s₁.heap = h0 := by rw [← hh, Bd.state]; rfl
  have N0 := Fr.nil n0
  refine own_cast (P := own_End s (Q_ini Z a0 a1 a2 h0 n0) ({ frames := 1, cells := 0, slots := 0, locals := 12 } : Room).cells ({ frames := 1, cells := 0, slots := 0, locals := 12 } : Room).slots) (ef_ini m a0 a1 a2) ?_
  refine g_aloadN X0 hx hby d_ini_0 rfl rfl (rfl : 0 + 1 = 1) ?_
  obtain ⟨T20, X20, e20, st20⟩ := initO X0 hx hZ hown (hw _ (List.mem_of_getElem? (i := 13) rfl)) (hw _ (List.mem_of_getElem? (i := 14) rfl)) (hw _ (List.mem_of_getElem? (i := 15) rfl)) e0 (g := (mkF m 1 #[.val (.ref a0), .val (.ref a1), .val (.ref a2)] [(.ref a0)])) rfl (by rw [hml]; rfl) rfl (hb hby d_ini_1) (by decide) (W := 0) (by show 2 * 0 + _ ≤ _; exact Nat.le_of_eq rfl) (by decide)
  refine own_go st20 ?_
  show own_Got p e below _ T20 (mkF m 4 #[.val (.ref a0), .val (.ref a1), .val (.ref a2)] [])
  refine g_aloadN X20 hx hby d_ini_4 rfl rfl (rfl : 4 + 1 = 5) ?_
  refine g_aloadN X20 hx hby d_ini_5 rfl rfl (rfl : 5 + 1 = 6) ?_
  obtain ⟨T21, h21, X21, e21, W21, st21⟩ := putF X20 hx hZ hown (host := "") (Or.inl (hw _ (List.mem_of_getElem? (i := 16) rfl))) Via.refl e20 hp1 hp0 (Or.inr ⟨(hw _ (List.mem_of_getElem? (i := 17) rfl)), rfl, hnm⟩) (hw _ (List.mem_of_getElem? (i := 1) rfl)) (ty := (.object "java/lang/Object")) (by decide) rfl rfl (g := (mkF m 6 #[.val (.ref a0), .val (.ref a1), .val (.ref a2)] [(.ref a1), (.ref a0)])) rfl rfl (hb hby d_ini_6)
  have Z21 : n0 ≤ h21.size := Nat.le_trans Z0 (Keep.of_wr W21).1
  have N21 := Fr.snoc X21 N0 hp4
  have K21 : Keep h0 h21 [a0] := (Keep.refl h0 [a0]).wr W21 (Or.inl (List.mem_of_getElem? (i := 0) rfl))
  have f21 : Fld Z h21 a0 "com/example/leanbough/leanbough/LlrbTreeMap$Node" "key" "Ljava/lang/Object;" (.ref a1) := Fld.same W21 hp1
  refine own_go st21 ?_
  show own_Got p e below _ T21 (mkF m 9 #[.val (.ref a0), .val (.ref a1), .val (.ref a2)] [])
  refine g_aloadN X21 hx hby d_ini_9 rfl rfl (rfl : 9 + 1 = 10) ?_
  refine g_aloadN X21 hx hby d_ini_10 rfl rfl (rfl : 10 + 1 = 11) ?_
  have f22 : Fld Z h21 a0 "com/example/leanbough/leanbough/LlrbTreeMap$Node" "value" "Ljava/lang/Object;" .null := (Fld.other W21 hp2 (Or.inr (slot_ne (Or.inl (hw _ (List.mem_of_getElem? (i := 19) rfl))) (Or.inr (hw _ (List.mem_of_getElem? (i := 17) rfl))) (by decide) (t := (.object "java/lang/Object")) (t' := (.object "java/lang/Object")) (by decide) (by decide))))
  have f23 : Exa Z h21 a0 "com/example/leanbough/leanbough/LlrbTreeMap$Node" := (Exa.wr W21 hp0)
  obtain ⟨T24, h24, X24, e24, W24, st24⟩ := putF X21 hx hZ hown (host := "") (Or.inl (hw _ (List.mem_of_getElem? (i := 18) rfl))) Via.refl e21 f22 f23 (Or.inl (hw _ (List.mem_of_getElem? (i := 19) rfl))) (hw _ (List.mem_of_getElem? (i := 1) rfl)) (ty := (.object "java/lang/Object")) (by decide) rfl rfl (g := (mkF m 11 #[.val (.ref a0), .val (.ref a1), .val (.ref a2)] [(.ref a2), (.ref a0)])) rfl rfl (hb hby d_ini_11)
  have Z24 : n0 ≤ h24.size := Nat.le_trans Z21 (Keep.of_wr W24).1
  have N24 := Fr.snoc X24 N21 hp4
  have K24 : Keep h0 h24 [a0] := K21.wr W24 (Or.inl (List.mem_of_getElem? (i := 0) rfl))
  have f24 : Fld Z h24 a0 "com/example/leanbough/leanbough/LlrbTreeMap$Node" "value" "Ljava/lang/Object;" (.ref a2) := Fld.same W24 f22
  refine own_go st24 ?_
  show own_Got p e below _ T24 (mkF m 14 #[.val (.ref a0), .val (.ref a1), .val (.ref a2)] [])
  refine g_aloadN X24 hx hby d_ini_14 rfl rfl (rfl : 14 + 1 = 15) ?_
  refine g_ldcI X24 hx hby hZ hown (hw _ (List.mem_of_getElem? (i := 20) rfl)) d_ini_15 (rfl : 15 + 2 = 17) ?_
  have f25 : Fld Z h24 a0 "com/example/leanbough/leanbough/LlrbTreeMap$Node" "colourAndLeftCount" "I" (.int (0 : Int32)) := (Fld.other W24 (Fld.other W21 hp3 (Or.inr (slot_ne (Or.inl (hw _ (List.mem_of_getElem? (i := 22) rfl))) (Or.inr (hw _ (List.mem_of_getElem? (i := 17) rfl))) (by decide) (t := .int) (t' := (.object "java/lang/Object")) (by decide) (by decide)))) (Or.inr (slot_ne (Or.inl (hw _ (List.mem_of_getElem? (i := 22) rfl))) (Or.inl (hw _ (List.mem_of_getElem? (i := 19) rfl))) (by decide) (t := .int) (t' := (.object "java/lang/Object")) (by decide) (by decide))))
  have f26 : Exa Z h24 a0 "com/example/leanbough/leanbough/LlrbTreeMap$Node" := (Exa.wr W24 f23)
  obtain ⟨T27, h27, X27, e27, W27, st27⟩ := putF X24 hx hZ hown (host := "") (Or.inl (hw _ (List.mem_of_getElem? (i := 21) rfl))) Via.refl e24 f25 f26 (Or.inl (hw _ (List.mem_of_getElem? (i := 22) rfl))) (hw _ (List.mem_of_getElem? (i := 1) rfl)) (ty := .int) (by decide) rfl rfl (g := (mkF m 17 #[.val (.ref a0), .val (.ref a1), .val (.ref a2)] [(.int (-2147483648 : Int32)), (.ref a0)])) rfl rfl (hb hby d_ini_17)
  have Z27 : n0 ≤ h27.size := Nat.le_trans Z24 (Keep.of_wr W27).1
  have N27 := Fr.snoc X27 N24 hp4
  have K27 : Keep h0 h27 [a0] := K24.wr W27 (Or.inl (List.mem_of_getElem? (i := 0) rfl))
  have f27 : Fld Z h27 a0 "com/example/leanbough/leanbough/LlrbTreeMap$Node" "colourAndLeftCount" "I" (.int (-2147483648 : Int32)) := Fld.same W27 f25
  refine own_go st27 ?_
  show own_Got p e below _ T27 (mkF m 20 #[.val (.ref a0), .val (.ref a1), .val (.ref a2)] [])
  have f28 : Exa Z h27 a0 "com/example/leanbough/leanbough/LlrbTreeMap$Node" := (Exa.wr W27 f26)
  refine own_retV X27 hx hby hlk hrt d_ini_20 (by decide) (by decide) ?_
  show Q_ini Z a0 a1 a2 h0 n0 _ T27.heap _
  rw [e27]
  exact ⟨rfl, N27, K27, f28, f27⟩
def S_red (w x1 : Int32) : Int32 := if x1 = (0 : Int32) then (w &&& (2147483647 : Int32)) else (w ||| (-2147483648 : Int32))
theorem d_srd_0 : decode prog_4_method_3_code 0 = .ok (.aload_n 0, 1) := by decide +kernel
theorem d_srd_1 : decode prog_4_method_3_code 1 = .ok (.iload_n 1, 1) := by decide +kernel
theorem d_srd_2 : decode prog_4_method_3_code 2 = .ok (.ifCond .eq 13, 3) := by decide +kernel
theorem d_srd_5 : decode prog_4_method_3_code 5 = .ok (.aload_n 0, 1) := by decide +kernel
theorem d_srd_6 : decode prog_4_method_3_code 6 = .ok (.getfield 19, 3) := by decide +kernel
theorem d_srd_9 : decode prog_4_method_3_code 9 = .ok (.ldc 18, 2) := by decide +kernel
theorem d_srd_11 : decode prog_4_method_3_code 11 = .ok (.ior, 1) := by decide +kernel
theorem d_srd_12 : decode prog_4_method_3_code 12 = .ok (.goto 10, 3) := by decide +kernel
theorem d_srd_15 : decode prog_4_method_3_code 15 = .ok (.aload_n 0, 1) := by decide +kernel
theorem d_srd_16 : decode prog_4_method_3_code 16 = .ok (.getfield 19, 3) := by decide +kernel
theorem d_srd_19 : decode prog_4_method_3_code 19 = .ok (.ldc 23, 2) := by decide +kernel
theorem d_srd_21 : decode prog_4_method_3_code 21 = .ok (.iand, 1) := by decide +kernel
theorem d_srd_22 : decode prog_4_method_3_code 22 = .ok (.putfield 19, 3) := by decide +kernel
theorem d_srd_25 : decode prog_4_method_3_code 25 = .ok (.return_, 1) := by decide +kernel
theorem ef_srd (m : MethodId) (a0 : Addr) (x1 : Int32) : entryFrame m #[(.ref a0), (.int x1)] 2 = mkF m 0 #[.val (.ref a0), .val (.int x1)] [] := by first | (simp [entryFrame, mkF, argsToLocals, Value.category]; done) | rfl
def Q_srd (Z : State) (a0 : Addr) (x1 : Int32) (w : Int32) (h0 : Heap) (n0 : Nat) (v : Option Value) (h : Heap) (L : List Loc) : Prop := v = none ∧ Fr n0 L ∧ Keep h0 h [a0] ∧ Exa Z h a0 "com/example/leanbough/leanbough/LlrbTreeMap$Node" ∧ Fld Z h a0 "com/example/leanbough/leanbough/LlrbTreeMap$Node" "colourAndLeftCount" "I" (.int (S_red w x1))
set_option maxRecDepth 65536 in
set_option maxHeartbeats 40000000 in
theorem rm_srd (l : Launch) (Z : State) (aT : Array Value) (hw : ∀ d ∈ tables_1, d.before aT Z = true) (ws : List Jvm.Cond) (a0 : Addr) (x1 : Int32) (w : Int32) (h0 : Heap) (n0 : Nat) (Z0 : n0 ≤ h0.size) (hp0 : Exa Z h0 a0 "com/example/leanbough/leanbough/LlrbTreeMap$Node") (hp1 : Fld Z h0 a0 "com/example/leanbough/leanbough/LlrbTreeMap$Node" "colourAndLeftCount" "I" (.int w)) (hp2 : n0 ≤ a0) :
    MetFree l (⟨"com/example/leanbough/leanbough/LlrbTreeMap$Node", "setRed", "(Z)V"⟩ : MethodName) (head1 (Jvm.Cond.code (⟨"com/example/leanbough/leanbough/LlrbTreeMap$Node", "setRed", "(Z)V"⟩ : MethodName) prog_4_method_3_code 2 none :: ws) ({ frames := 0, cells := 0, slots := 0, locals := 0 } : Room)) (fun a U => a = #[(.ref a0), (.int x1)] ∧ Z.Warmed39 U.vm ∧ U.heap = h0) (fun _ _ _ _ _ => True) (fun _ U o U' => ∃ v L, o = .returned v ∧ Q_srd Z a0 x1 w h0 n0 v U'.heap L ∧ FrameEnd U o U' L ({ frames := 0, cells := 0, slots := 0, locals := 0 } : Room).cells ({ frames := 0, cells := 0, slots := 0, locals := 0 } : Room).slots) := by
  refine MetFree.of_bodySF (plainFor_of_name pn2) hisR ?_
  intro p e s m args below meth c s₁ Bd hml0 hP hK
  obtain ⟨rfl, hZ, hh⟩ := hP
  have hx := Bd.exec
  have hby := Bd.bytes
  have hml : c.maxLocals = 2 := hml0
  have hown : s.vm.findClass "com/example/leanbough/leanbough/LlrbTreeMap$Node" = some m.cls := findClass_of_methodNamed Bd.named
  have hnm := (name_of_methodNamed Bd.named Bd.method).1
  have hlk := Bd.notSynchronized
  have hrt := Bd.returns
  have X0 : Stand p l e ({ frames := 0, cells := 0, slots := 0, locals := 0 } : Room) s m #[(.ref a0), (.int x1)] below meth c s₁ [] 0 0 := Stand.of_body Bd
  have e0 : s₁.heap = h0 := by rw [← hh, Bd.state]; rfl
  have N0 := Fr.nil n0
  refine own_cast (P := own_End s (Q_srd Z a0 x1 w h0 n0) ({ frames := 0, cells := 0, slots := 0, locals := 0 } : Room).cells ({ frames := 0, cells := 0, slots := 0, locals := 0 } : Room).slots) (ef_srd m a0 x1) ?_
  refine g_aloadN X0 hx hby d_srd_0 rfl rfl (rfl : 0 + 1 = 1) ?_
  refine g_iloadN X0 hx hby d_srd_1 rfl (rfl : 1 + 1 = 2) ?_
  by_cases c29 : x1 = (0 : Int32)
  · refine g_ifT X0 hx hby d_srd_2 ((if0 _ _).trans (teq c29).1) (by decide) (pc' := 15) (by decide) ?_
    refine g_aloadN X0 hx hby d_srd_15 rfl rfl (rfl : 15 + 1 = 16) ?_
    obtain ⟨T30, X30, e30, st30⟩ := getF X0 hx hZ hown (host := "") (Or.inl (hw _ (List.mem_of_getElem? (i := 21) rfl))) Via.refl e0 hp1 (g := (mkF m 16 #[.val (.ref a0), .val (.int x1)] [(.ref a0), (.ref a0)])) rfl rfl (hb hby d_srd_16)
    refine own_go st30 ?_
    show own_Got p e below _ T30 (mkF m 19 #[.val (.ref a0), .val (.int x1)] [(.int w), (.ref a0)])
    refine g_ldcI X30 hx hby hZ hown (hw _ (List.mem_of_getElem? (i := 39) rfl)) d_srd_19 (rfl : 19 + 2 = 21) ?_
    refine g_iand X30 hx hby d_srd_21 (rfl : 21 + 1 = 22) ?_
    obtain ⟨T31, h31, X31, e31, W31, st31⟩ := putF X30 hx hZ hown (host := "") (Or.inl (hw _ (List.mem_of_getElem? (i := 21) rfl))) Via.refl e30 hp1 hp0 (Or.inl (hw _ (List.mem_of_getElem? (i := 22) rfl))) (hw _ (List.mem_of_getElem? (i := 1) rfl)) (ty := .int) (by decide) rfl rfl (g := (mkF m 22 #[.val (.ref a0), .val (.int x1)] [(.int (w &&& (2147483647 : Int32))), (.ref a0)])) rfl rfl (hb hby d_srd_22)
    have Z31 : n0 ≤ h31.size := Nat.le_trans Z0 (Keep.of_wr W31).1
    have N31 := Fr.snoc X31 N0 hp2
    have K31 : Keep h0 h31 [a0] := (Keep.refl h0 [a0]).wr W31 (Or.inl (List.mem_of_getElem? (i := 0) rfl))
    have f31 : Fld Z h31 a0 "com/example/leanbough/leanbough/LlrbTreeMap$Node" "colourAndLeftCount" "I" (.int (w &&& (2147483647 : Int32))) := Fld.same W31 hp1
    refine own_go st31 ?_
    show own_Got p e below _ T31 (mkF m 25 #[.val (.ref a0), .val (.int x1)] [])
    have f32 : Exa Z h31 a0 "com/example/leanbough/leanbough/LlrbTreeMap$Node" := (Exa.wr W31 hp0)
    refine own_retV X31 hx hby hlk hrt d_srd_25 (by decide) (by decide) ?_
    show Q_srd Z a0 x1 w h0 n0 _ T31.heap _
    rw [e31]
    exact ⟨rfl, N31, K31, f32, (by rw [S_red, if_pos c29]; exact f31)⟩
  · refine g_ifF X0 hx hby d_srd_2 ((if0 _ _).trans (feq c29).1) (rfl : 2 + 3 = 5) ?_
    refine g_aloadN X0 hx hby d_srd_5 rfl rfl (rfl : 5 + 1 = 6) ?_
    obtain ⟨T33, X33, e33, st33⟩ := getF X0 hx hZ hown (host := "") (Or.inl (hw _ (List.mem_of_getElem? (i := 21) rfl))) Via.refl e0 hp1 (g := (mkF m 6 #[.val (.ref a0), .val (.int x1)] [(.ref a0), (.ref a0)])) rfl rfl (hb hby d_srd_6)
    refine own_go st33 ?_
    show own_Got p e below _ T33 (mkF m 9 #[.val (.ref a0), .val (.int x1)] [(.int w), (.ref a0)])
    refine g_ldcI X33 hx hby hZ hown (hw _ (List.mem_of_getElem? (i := 20) rfl)) d_srd_9 (rfl : 9 + 2 = 11) ?_
    refine g_ior X33 hx hby d_srd_11 (rfl : 11 + 1 = 12) ?_
    refine g_goto X33 hx hby d_srd_12 (by decide) (pc' := 22) (by decide) ?_
    obtain ⟨T34, h34, X34, e34, W34, st34⟩ := putF X33 hx hZ hown (host := "") (Or.inl (hw _ (List.mem_of_getElem? (i := 21) rfl))) Via.refl e33 hp1 hp0 (Or.inl (hw _ (List.mem_of_getElem? (i := 22) rfl))) (hw _ (List.mem_of_getElem? (i := 1) rfl)) (ty := .int) (by decide) rfl rfl (g := (mkF m 22 #[.val (.ref a0), .val (.int x1)] [(.int (w ||| (-2147483648 : Int32))), (.ref a0)])) rfl rfl (hb hby d_srd_22)
    have Z34 : n0 ≤ h34.size := Nat.le_trans Z0 (Keep.of_wr W34).1
    have N34 := Fr.snoc X34 N0 hp2
    have K34 : Keep h0 h34 [a0] := (Keep.refl h0 [a0]).wr W34 (Or.inl (List.mem_of_getElem? (i := 0) rfl))
    have f34 : Fld Z h34 a0 "com/example/leanbough/leanbough/LlrbTreeMap$Node" "colourAndLeftCount" "I" (.int (w ||| (-2147483648 : Int32))) := Fld.same W34 hp1
    refine own_go st34 ?_
    show own_Got p e below _ T34 (mkF m 25 #[.val (.ref a0), .val (.int x1)] [])
    have f35 : Exa Z h34 a0 "com/example/leanbough/leanbough/LlrbTreeMap$Node" := (Exa.wr W34 hp0)
    refine own_retV X34 hx hby hlk hrt d_srd_25 (by decide) (by decide) ?_
    show Q_srd Z a0 x1 w h0 n0 _ T34.heap _
    rw [e34]
    exact ⟨rfl, N34, K34, f35, (by rw [S_red, if_neg c29]; exact f34)⟩
theorem d_alc_0 : decode prog_4_method_6_code 0 = .ok (.aload_n 0, 1) := by decide +kernel
theorem d_alc_1 : decode prog_4_method_6_code 1 = .ok (.dup, 1) := by decide +kernel
theorem d_alc_2 : decode prog_4_method_6_code 2 = .ok (.getfield 19, 3) := by decide +kernel
theorem d_alc_5 : decode prog_4_method_6_code 5 = .ok (.iload_n 1, 1) := by decide +kernel
theorem d_alc_6 : decode prog_4_method_6_code 6 = .ok (.iadd, 1) := by decide +kernel
theorem d_alc_7 : decode prog_4_method_6_code 7 = .ok (.putfield 19, 3) := by decide +kernel
theorem d_alc_10 : decode prog_4_method_6_code 10 = .ok (.return_, 1) := by decide +kernel
theorem ef_alc (m : MethodId) (a0 : Addr) (x1 : Int32) : entryFrame m #[(.ref a0), (.int x1)] 2 = mkF m 0 #[.val (.ref a0), .val (.int x1)] [] := by first | (simp [entryFrame, mkF, argsToLocals, Value.category]; done) | rfl
def Q_alc (Z : State) (a0 : Addr) (x1 : Int32) (w : Int32) (h0 : Heap) (n0 : Nat) (v : Option Value) (h : Heap) (L : List Loc) : Prop := v = none ∧ Fr n0 L ∧ Keep h0 h [a0] ∧ Exa Z h a0 "com/example/leanbough/leanbough/LlrbTreeMap$Node" ∧ Fld Z h a0 "com/example/leanbough/leanbough/LlrbTreeMap$Node" "colourAndLeftCount" "I" (.int (w + x1))
set_option maxRecDepth 65536 in
set_option maxHeartbeats 40000000 in
theorem rm_alc (l : Launch) (Z : State) (aT : Array Value) (hw : ∀ d ∈ tables_1, d.before aT Z = true) (ws : List Jvm.Cond) (a0 : Addr) (x1 : Int32) (w : Int32) (h0 : Heap) (n0 : Nat) (Z0 : n0 ≤ h0.size) (hp0 : Exa Z h0 a0 "com/example/leanbough/leanbough/LlrbTreeMap$Node") (hp1 : Fld Z h0 a0 "com/example/leanbough/leanbough/LlrbTreeMap$Node" "colourAndLeftCount" "I" (.int w)) (hp2 : n0 ≤ a0) :
    MetFree l (⟨"com/example/leanbough/leanbough/LlrbTreeMap$Node", "addToLeftCount", "(I)V"⟩ : MethodName) (head1 (Jvm.Cond.code (⟨"com/example/leanbough/leanbough/LlrbTreeMap$Node", "addToLeftCount", "(I)V"⟩ : MethodName) prog_4_method_6_code 2 none :: ws) ({ frames := 0, cells := 0, slots := 0, locals := 0 } : Room)) (fun a U => a = #[(.ref a0), (.int x1)] ∧ Z.Warmed39 U.vm ∧ U.heap = h0) (fun _ _ _ _ _ => True) (fun _ U o U' => ∃ v L, o = .returned v ∧ Q_alc Z a0 x1 w h0 n0 v U'.heap L ∧ FrameEnd U o U' L ({ frames := 0, cells := 0, slots := 0, locals := 0 } : Room).cells ({ frames := 0, cells := 0, slots := 0, locals := 0 } : Room).slots) := by
  refine MetFree.of_bodySF (plainFor_of_name pn2) hisR ?_
  intro p e s m args below meth c s₁ Bd hml0 hP hK
  obtain ⟨rfl, hZ, hh⟩ := hP
  have hx := Bd.exec
  have hby := Bd.bytes
  have hml : c.maxLocals = 2 := hml0
  have hown : s.vm.findClass "com/example/leanbough/leanbough/LlrbTreeMap$Node" = some m.cls := findClass_of_methodNamed Bd.named
  have hnm := (name_of_methodNamed Bd.named Bd.method).1
  have hlk := Bd.notSynchronized
  have hrt := Bd.returns
  have X0 : Stand p l e ({ frames := 0, cells := 0, slots := 0, locals := 0 } : Room) s m #[(.ref a0), (.int x1)] below meth c s₁ [] 0 0 := Stand.of_body Bd
  have e0 : s₁.heap = h0 := by rw [← hh, Bd.state]; rfl
  have N0 := Fr.nil n0
  refine own_cast (P := own_End s (Q_alc Z a0 x1 w h0 n0) ({ frames := 0, cells := 0, slots := 0, locals := 0 } : Room).cells ({ frames := 0, cells := 0, slots := 0, locals := 0 } : Room).slots) (ef_alc m a0 x1) ?_
  refine g_aloadN X0 hx hby d_alc_0 rfl rfl (rfl : 0 + 1 = 1) ?_
  refine g_dup X0 hx hby d_alc_1 rfl (rfl : 1 + 1 = 2) ?_
  obtain ⟨T36, X36, e36, st36⟩ := getF X0 hx hZ hown (host := "") (Or.inl (hw _ (List.mem_of_getElem? (i := 21) rfl))) Via.refl e0 hp1 (g := (mkF m 2 #[.val (.ref a0), .val (.int x1)] [(.ref a0), (.ref a0)])) rfl rfl (hb hby d_alc_2)
  refine own_go st36 ?_
  show own_Got p e below _ T36 (mkF m 5 #[.val (.ref a0), .val (.int x1)] [(.int w), (.ref a0)])
  refine g_iloadN X36 hx hby d_alc_5 rfl (rfl : 5 + 1 = 6) ?_
  refine g_iadd X36 hx hby d_alc_6 (rfl : 6 + 1 = 7) ?_
  obtain ⟨T37, h37, X37, e37, W37, st37⟩ := putF X36 hx hZ hown (host := "") (Or.inl (hw _ (List.mem_of_getElem? (i := 21) rfl))) Via.refl e36 hp1 hp0 (Or.inl (hw _ (List.mem_of_getElem? (i := 22) rfl))) (hw _ (List.mem_of_getElem? (i := 1) rfl)) (ty := .int) (by decide) rfl rfl (g := (mkF m 7 #[.val (.ref a0), .val (.int x1)] [(.int (w + x1)), (.ref a0)])) rfl rfl (hb hby d_alc_7)
  have Z37 : n0 ≤ h37.size := Nat.le_trans Z0 (Keep.of_wr W37).1
  have N37 := Fr.snoc X37 N0 hp2
  have K37 : Keep h0 h37 [a0] := (Keep.refl h0 [a0]).wr W37 (Or.inl (List.mem_of_getElem? (i := 0) rfl))
  have f37 : Fld Z h37 a0 "com/example/leanbough/leanbough/LlrbTreeMap$Node" "colourAndLeftCount" "I" (.int (w + x1)) := Fld.same W37 hp1
  refine own_go st37 ?_
  show own_Got p e below _ T37 (mkF m 10 #[.val (.ref a0), .val (.int x1)] [])
  have f38 : Exa Z h37 a0 "com/example/leanbough/leanbough/LlrbTreeMap$Node" := (Exa.wr W37 hp0)
  refine own_retV X37 hx hby hlk hrt d_alc_10 (by decide) (by decide) ?_
  show Q_alc Z a0 x1 w h0 n0 _ T37.heap _
  rw [e37]
  exact ⟨rfl, N37, K37, f38, f37⟩
theorem d_lct_0 : decode prog_4_method_4_code 0 = .ok (.aload_n 0, 1) := by decide +kernel
theorem d_lct_1 : decode prog_4_method_4_code 1 = .ok (.getfield 19, 3) := by decide +kernel
theorem d_lct_4 : decode prog_4_method_4_code 4 = .ok (.ldc 23, 2) := by decide +kernel
theorem d_lct_6 : decode prog_4_method_4_code 6 = .ok (.iand, 1) := by decide +kernel
theorem d_lct_7 : decode prog_4_method_4_code 7 = .ok (.ireturn, 1) := by decide +kernel
theorem ef_lct (m : MethodId) (a0 : Addr) : entryFrame m #[(.ref a0)] 1 = mkF m 0 #[.val (.ref a0)] [] := by first | (simp [entryFrame, mkF, argsToLocals, Value.category]; done) | rfl
def F_lct (w : Int32) : Int32 := (w &&& (2147483647 : Int32))
def Q_lct (Z : State) (a0 : Addr) (w : Int32) (h0 : Heap) (n0 : Nat) (v : Option Value) (h : Heap) (L : List Loc) : Prop := v = some (.int (F_lct w)) ∧ Fr n0 L ∧ h = h0
set_option maxRecDepth 65536 in
set_option maxHeartbeats 40000000 in
theorem rm_lct (l : Launch) (Z : State) (aT : Array Value) (hw : ∀ d ∈ tables_1, d.before aT Z = true) (ws : List Jvm.Cond) (a0 : Addr) (w : Int32) (h0 : Heap) (n0 : Nat) (Z0 : n0 ≤ h0.size) (hp0 : Fld Z h0 a0 "com/example/leanbough/leanbough/LlrbTreeMap$Node" "colourAndLeftCount" "I" (.int w)) :
    MetFree l (⟨"com/example/leanbough/leanbough/LlrbTreeMap$Node", "leftCount", "()I"⟩ : MethodName) (head1 (Jvm.Cond.code (⟨"com/example/leanbough/leanbough/LlrbTreeMap$Node", "leftCount", "()I"⟩ : MethodName) prog_4_method_4_code 1 (some .int) :: ws) ({ frames := 0, cells := 0, slots := 0, locals := 0 } : Room)) (fun a U => a = #[(.ref a0)] ∧ Z.Warmed39 U.vm ∧ U.heap = h0) (fun _ _ _ _ _ => True) (fun _ U o U' => ∃ v L, o = .returned v ∧ Q_lct Z a0 w h0 n0 v U'.heap L ∧ FrameEnd U o U' L ({ frames := 0, cells := 0, slots := 0, locals := 0 } : Room).cells ({ frames := 0, cells := 0, slots := 0, locals := 0 } : Room).slots) := by
  refine MetFree.of_bodySF (plainFor_of_name pn2) hisR ?_
  intro p e s m args below meth c s₁ Bd hml0 hP hK
  obtain ⟨rfl, hZ, hh⟩ := hP
  have hx := Bd.exec
  have hby := Bd.bytes
  have hml : c.maxLocals = 1 := hml0
  have hown : s.vm.findClass "com/example/leanbough/leanbough/LlrbTreeMap$Node" = some m.cls := findClass_of_methodNamed Bd.named
  have hnm := (name_of_methodNamed Bd.named Bd.method).1
  have hlk := Bd.notSynchronized
  have hrt := Bd.returns
  have X0 : Stand p l e ({ frames := 0, cells := 0, slots := 0, locals := 0 } : Room) s m #[(.ref a0)] below meth c s₁ [] 0 0 := Stand.of_body Bd
  have e0 : s₁.heap = h0 := by rw [← hh, Bd.state]; rfl
  have N0 := Fr.nil n0
  refine own_cast (P := own_End s (Q_lct Z a0 w h0 n0) ({ frames := 0, cells := 0, slots := 0, locals := 0 } : Room).cells ({ frames := 0, cells := 0, slots := 0, locals := 0 } : Room).slots) (ef_lct m a0) ?_
  refine g_aloadN X0 hx hby d_lct_0 rfl rfl (rfl : 0 + 1 = 1) ?_
  obtain ⟨T39, X39, e39, st39⟩ := getF X0 hx hZ hown (host := "") (Or.inl (hw _ (List.mem_of_getElem? (i := 21) rfl))) Via.refl e0 hp0 (g := (mkF m 1 #[.val (.ref a0)] [(.ref a0)])) rfl rfl (hb hby d_lct_1)
  refine own_go st39 ?_
  show own_Got p e below _ T39 (mkF m 4 #[.val (.ref a0)] [(.int w)])
  refine g_ldcI X39 hx hby hZ hown (hw _ (List.mem_of_getElem? (i := 39) rfl)) d_lct_4 (rfl : 4 + 2 = 6) ?_
  refine g_iand X39 hx hby d_lct_6 (rfl : 6 + 1 = 7) ?_
  refine own_retI X39 hx hby hlk hrt d_lct_7 (by decide) (by decide) ?_
  show Q_lct Z a0 w h0 n0 _ T39.heap _
  exact ⟨rfl, N0, e39⟩
theorem d_red_0 : decode prog_4_method_2_code 0 = .ok (.aload_n 0, 1) := by decide +kernel
theorem d_red_1 : decode prog_4_method_2_code 1 = .ok (.getfield 19, 3) := by decide +kernel
theorem d_red_4 : decode prog_4_method_2_code 4 = .ok (.ifCond .ge 7, 3) := by decide +kernel
theorem d_red_7 : decode prog_4_method_2_code 7 = .ok (.iconst 1, 1) := by decide +kernel
theorem d_red_8 : decode prog_4_method_2_code 8 = .ok (.goto 4, 3) := by decide +kernel
theorem d_red_11 : decode prog_4_method_2_code 11 = .ok (.iconst 0, 1) := by decide +kernel
theorem d_red_12 : decode prog_4_method_2_code 12 = .ok (.ireturn, 1) := by decide +kernel
theorem ef_red (m : MethodId) (a0 : Addr) : entryFrame m #[(.ref a0)] 1 = mkF m 0 #[.val (.ref a0)] [] := by first | (simp [entryFrame, mkF, argsToLocals, Value.category]; done) | rfl
def F_red (w : Int32) : Int32 := if w < (0 : Int32) then ((1 : Int32)) else ((0 : Int32))
def Q_red (Z : State) (a0 : Addr) (w : Int32) (h0 : Heap) (n0 : Nat) (v : Option Value) (h : Heap) (L : List Loc) : Prop := v = some (.int (F_red w)) ∧ Fr n0 L ∧ h = h0
set_option maxRecDepth 65536 in
set_option maxHeartbeats 40000000 in
theorem rm_red (l : Launch) (Z : State) (aT : Array Value) (hw : ∀ d ∈ tables_1, d.before aT Z = true) (ws : List Jvm.Cond) (a0 : Addr) (w : Int32) (h0 : Heap) (n0 : Nat) (Z0 : n0 ≤ h0.size) (hp0 : Fld Z h0 a0 "com/example/leanbough/leanbough/LlrbTreeMap$Node" "colourAndLeftCount" "I" (.int w)) :
    MetFree l (⟨"com/example/leanbough/leanbough/LlrbTreeMap$Node", "red", "()Z"⟩ : MethodName) (head1 (Jvm.Cond.code (⟨"com/example/leanbough/leanbough/LlrbTreeMap$Node", "red", "()Z"⟩ : MethodName) prog_4_method_2_code 1 (some .boolean) :: ws) ({ frames := 0, cells := 0, slots := 0, locals := 0 } : Room)) (fun a U => a = #[(.ref a0)] ∧ Z.Warmed39 U.vm ∧ U.heap = h0) (fun _ _ _ _ _ => True) (fun _ U o U' => ∃ v L, o = .returned v ∧ Q_red Z a0 w h0 n0 v U'.heap L ∧ FrameEnd U o U' L ({ frames := 0, cells := 0, slots := 0, locals := 0 } : Room).cells ({ frames := 0, cells := 0, slots := 0, locals := 0 } : Room).slots) := by
  refine MetFree.of_bodySF (plainFor_of_name pn2) hisR ?_
  intro p e s m args below meth c s₁ Bd hml0 hP hK
  obtain ⟨rfl, hZ, hh⟩ := hP
  have hx := Bd.exec
  have hby := Bd.bytes
  have hml : c.maxLocals = 1 := hml0
  have hown : s.vm.findClass "com/example/leanbough/leanbough/LlrbTreeMap$Node" = some m.cls := findClass_of_methodNamed Bd.named
  have hnm := (name_of_methodNamed Bd.named Bd.method).1
  have hlk := Bd.notSynchronized
  have hrt := Bd.returns
  have X0 : Stand p l e ({ frames := 0, cells := 0, slots := 0, locals := 0 } : Room) s m #[(.ref a0)] below meth c s₁ [] 0 0 := Stand.of_body Bd
  have e0 : s₁.heap = h0 := by rw [← hh, Bd.state]; rfl
  have N0 := Fr.nil n0
  refine own_cast (P := own_End s (Q_red Z a0 w h0 n0) ({ frames := 0, cells := 0, slots := 0, locals := 0 } : Room).cells ({ frames := 0, cells := 0, slots := 0, locals := 0 } : Room).slots) (ef_red m a0) ?_
  refine g_aloadN X0 hx hby d_red_0 rfl rfl (rfl : 0 + 1 = 1) ?_
  obtain ⟨T40, X40, e40, st40⟩ := getF X0 hx hZ hown (host := "") (Or.inl (hw _ (List.mem_of_getElem? (i := 21) rfl))) Via.refl e0 hp0 (g := (mkF m 1 #[.val (.ref a0)] [(.ref a0)])) rfl rfl (hb hby d_red_1)
  refine own_go st40 ?_
  show own_Got p e below _ T40 (mkF m 4 #[.val (.ref a0)] [(.int w)])
  by_cases c41 : w < (0 : Int32)
  · refine g_ifF X40 hx hby d_red_4 ((if0 _ _).trans (tlt c41).2.1) (rfl : 4 + 3 = 7) ?_
    refine g_iconst X40 hx hby (1 : Int32) d_red_7 (by decide) (rfl : 7 + 1 = 8) ?_
    refine g_goto X40 hx hby d_red_8 (by decide) (pc' := 12) (by decide) ?_
    refine own_retN X40 hx hby hlk (t := .boolean) hrt (by simp) d_red_12 (by decide) (by decide) ?_
    show Q_red Z a0 w h0 n0 _ T40.heap _
    exact ⟨(congrArg (fun z => some (Value.int z)) (by rw [F_red, if_pos c41] <;> rfl)), N0, e40⟩
  · refine g_ifT X40 hx hby d_red_4 ((if0 _ _).trans (flt c41).2.1) (by decide) (pc' := 11) (by decide) ?_
    refine g_iconst X40 hx hby (0 : Int32) d_red_11 (by decide) (rfl : 11 + 1 = 12) ?_
    refine own_retN X40 hx hby hlk (t := .boolean) hrt (by simp) d_red_12 (by decide) (by decide) ?_
    show Q_red Z a0 w h0 n0 _ T40.heap _
    exact ⟨(congrArg (fun z => some (Value.int z)) (by rw [F_red, if_neg c41] <;> rfl)), N0, e40⟩
theorem d_slc_0 : decode prog_4_method_5_code 0 = .ok (.aload_n 0, 1) := by decide +kernel
theorem d_slc_1 : decode prog_4_method_5_code 1 = .ok (.aload_n 0, 1) := by decide +kernel
theorem d_slc_2 : decode prog_4_method_5_code 2 = .ok (.getfield 19, 3) := by decide +kernel
theorem d_slc_5 : decode prog_4_method_5_code 5 = .ok (.ldc 18, 2) := by decide +kernel
theorem d_slc_7 : decode prog_4_method_5_code 7 = .ok (.iand, 1) := by decide +kernel
theorem d_slc_8 : decode prog_4_method_5_code 8 = .ok (.iload_n 1, 1) := by decide +kernel
theorem d_slc_9 : decode prog_4_method_5_code 9 = .ok (.ior, 1) := by decide +kernel
theorem d_slc_10 : decode prog_4_method_5_code 10 = .ok (.putfield 19, 3) := by decide +kernel
theorem d_slc_13 : decode prog_4_method_5_code 13 = .ok (.return_, 1) := by decide +kernel
theorem ef_slc (m : MethodId) (a0 : Addr) (x1 : Int32) : entryFrame m #[(.ref a0), (.int x1)] 2 = mkF m 0 #[.val (.ref a0), .val (.int x1)] [] := by first | (simp [entryFrame, mkF, argsToLocals, Value.category]; done) | rfl
def Q_slc (Z : State) (a0 : Addr) (x1 : Int32) (w : Int32) (h0 : Heap) (n0 : Nat) (v : Option Value) (h : Heap) (L : List Loc) : Prop := v = none ∧ Fr n0 L ∧ Keep h0 h [a0] ∧ Exa Z h a0 "com/example/leanbough/leanbough/LlrbTreeMap$Node" ∧ Fld Z h a0 "com/example/leanbough/leanbough/LlrbTreeMap$Node" "colourAndLeftCount" "I" (.int ((w &&& (-2147483648 : Int32)) ||| x1))
set_option maxRecDepth 65536 in
set_option maxHeartbeats 40000000 in
theorem rm_slc (l : Launch) (Z : State) (aT : Array Value) (hw : ∀ d ∈ tables_1, d.before aT Z = true) (ws : List Jvm.Cond) (a0 : Addr) (x1 : Int32) (w : Int32) (h0 : Heap) (n0 : Nat) (Z0 : n0 ≤ h0.size) (hp0 : Exa Z h0 a0 "com/example/leanbough/leanbough/LlrbTreeMap$Node") (hp1 : Fld Z h0 a0 "com/example/leanbough/leanbough/LlrbTreeMap$Node" "colourAndLeftCount" "I" (.int w)) (hp2 : n0 ≤ a0) :
    MetFree l (⟨"com/example/leanbough/leanbough/LlrbTreeMap$Node", "setLeftCount", "(I)V"⟩ : MethodName) (head1 (Jvm.Cond.code (⟨"com/example/leanbough/leanbough/LlrbTreeMap$Node", "setLeftCount", "(I)V"⟩ : MethodName) prog_4_method_5_code 2 none :: ws) ({ frames := 0, cells := 0, slots := 0, locals := 0 } : Room)) (fun a U => a = #[(.ref a0), (.int x1)] ∧ Z.Warmed39 U.vm ∧ U.heap = h0) (fun _ _ _ _ _ => True) (fun _ U o U' => ∃ v L, o = .returned v ∧ Q_slc Z a0 x1 w h0 n0 v U'.heap L ∧ FrameEnd U o U' L ({ frames := 0, cells := 0, slots := 0, locals := 0 } : Room).cells ({ frames := 0, cells := 0, slots := 0, locals := 0 } : Room).slots) := by
  refine MetFree.of_bodySF (plainFor_of_name pn2) hisR ?_
  intro p e s m args below meth c s₁ Bd hml0 hP hK
  obtain ⟨rfl, hZ, hh⟩ := hP
  have hx := Bd.exec
  have hby := Bd.bytes
  have hml : c.maxLocals = 2 := hml0
  have hown : s.vm.findClass "com/example/leanbough/leanbough/LlrbTreeMap$Node" = some m.cls := findClass_of_methodNamed Bd.named
  have hnm := (name_of_methodNamed Bd.named Bd.method).1
  have hlk := Bd.notSynchronized
  have hrt := Bd.returns
  have X0 : Stand p l e ({ frames := 0, cells := 0, slots := 0, locals := 0 } : Room) s m #[(.ref a0), (.int x1)] below meth c s₁ [] 0 0 := Stand.of_body Bd
  have e0 : s₁.heap = h0 := by rw [← hh, Bd.state]; rfl
  have N0 := Fr.nil n0
  refine own_cast (P := own_End s (Q_slc Z a0 x1 w h0 n0) ({ frames := 0, cells := 0, slots := 0, locals := 0 } : Room).cells ({ frames := 0, cells := 0, slots := 0, locals := 0 } : Room).slots) (ef_slc m a0 x1) ?_
  refine g_aloadN X0 hx hby d_slc_0 rfl rfl (rfl : 0 + 1 = 1) ?_
  refine g_aloadN X0 hx hby d_slc_1 rfl rfl (rfl : 1 + 1 = 2) ?_
  obtain ⟨T42, X42, e42, st42⟩ := getF X0 hx hZ hown (host := "") (Or.inl (hw _ (List.mem_of_getElem? (i := 21) rfl))) Via.refl e0 hp1 (g := (mkF m 2 #[.val (.ref a0), .val (.int x1)] [(.ref a0), (.ref a0)])) rfl rfl (hb hby d_slc_2)
  refine own_go st42 ?_
  show own_Got p e below _ T42 (mkF m 5 #[.val (.ref a0), .val (.int x1)] [(.int w), (.ref a0)])
  refine g_ldcI X42 hx hby hZ hown (hw _ (List.mem_of_getElem? (i := 20) rfl)) d_slc_5 (rfl : 5 + 2 = 7) ?_
  refine g_iand X42 hx hby d_slc_7 (rfl : 7 + 1 = 8) ?_
  refine g_iloadN X42 hx hby d_slc_8 rfl (rfl : 8 + 1 = 9) ?_
  refine g_ior X42 hx hby d_slc_9 (rfl : 9 + 1 = 10) ?_
  obtain ⟨T43, h43, X43, e43, W43, st43⟩ := putF X42 hx hZ hown (host := "") (Or.inl (hw _ (List.mem_of_getElem? (i := 21) rfl))) Via.refl e42 hp1 hp0 (Or.inl (hw _ (List.mem_of_getElem? (i := 22) rfl))) (hw _ (List.mem_of_getElem? (i := 1) rfl)) (ty := .int) (by decide) rfl rfl (g := (mkF m 10 #[.val (.ref a0), .val (.int x1)] [(.int ((w &&& (-2147483648 : Int32)) ||| x1)), (.ref a0)])) rfl rfl (hb hby d_slc_10)
  have Z43 : n0 ≤ h43.size := Nat.le_trans Z0 (Keep.of_wr W43).1
  have N43 := Fr.snoc X43 N0 hp2
  have K43 : Keep h0 h43 [a0] := (Keep.refl h0 [a0]).wr W43 (Or.inl (List.mem_of_getElem? (i := 0) rfl))
  have f43 : Fld Z h43 a0 "com/example/leanbough/leanbough/LlrbTreeMap$Node" "colourAndLeftCount" "I" (.int ((w &&& (-2147483648 : Int32)) ||| x1)) := Fld.same W43 hp1
  refine own_go st43 ?_
  show own_Got p e below _ T43 (mkF m 13 #[.val (.ref a0), .val (.int x1)] [])
  have f44 : Exa Z h43 a0 "com/example/leanbough/leanbough/LlrbTreeMap$Node" := (Exa.wr W43 hp0)
  refine own_retV X43 hx hby hlk hrt d_slc_13 (by decide) (by decide) ?_
  show Q_slc Z a0 x1 w h0 n0 _ T43.heap _
  rw [e43]
  exact ⟨rfl, N43, K43, f44, f43⟩
theorem pn3 : plainName "com/example/leanbough/leanbough/NodeRedPinLaw" = true := by first | (simp [plainName, overriddenIn]; done) | decide +kernel
theorem pd2 : parseMethodDescriptor "(I)Ljava/lang/Integer;" = some ⟨[.int], some (.object "java/lang/Integer")⟩ := by decide +kernel
theorem pd3 : parseMethodDescriptor "(Ljava/lang/Object;Ljava/lang/Object;)V" = some ⟨[(.object "java/lang/Object"), (.object "java/lang/Object")], none⟩ := by decide +kernel
theorem pd4 : parseMethodDescriptor "()Z" = some ⟨[], some .boolean⟩ := by decide +kernel
theorem pd5 : parseMethodDescriptor "(Z)V" = some ⟨[.boolean], none⟩ := by decide +kernel
theorem pd6 : parseMethodDescriptor "()I" = some ⟨[], some .int⟩ := by decide +kernel
theorem ef_law (m : MethodId) (x0 : Int32) (x1 : Int32) (x2 : Int32) (x3 : Int32) : entryFrame m #[(.int x0), (.int x1), (.int x2), (.int x3)] maxLocals = mkF m 0 #[.val (.int x0), .val (.int x1), .val (.int x2), .val (.int x3), .unset, .unset, .unset, .unset, .unset, .unset, .unset, .unset, .unset, .unset, .unset] [] := by first | (simp [entryFrame, mkF, argsToLocals, Value.category, maxLocals]; done) | rfl
def F_law (x0 : Int32) (x1 : Int32) (x2 : Int32) (x3 : Int32) : Int32 := if (x2 &&& (1 : Int32)) = (0 : Int32) then (if (x2 &&& (2 : Int32)) = (0 : Int32) then (if (F_red (-2147483648 : Int32)) = (0 : Int32) then ((0 : Int32)) else (if (F_red (((-2147483648 : Int32) &&& (-2147483648 : Int32)) ||| (x1 &&& (2147483647 : Int32)))) = (0 : Int32) then ((0 : Int32)) else (if (F_red (S_red (((-2147483648 : Int32) &&& (-2147483648 : Int32)) ||| (x1 &&& (2147483647 : Int32))) (0 : Int32))) = (0 : Int32) then (if (F_red ((S_red (((-2147483648 : Int32) &&& (-2147483648 : Int32)) ||| (x1 &&& (2147483647 : Int32))) (0 : Int32)) + ((x3 &&& (2147483647 : Int32)) - (x1 &&& (2147483647 : Int32))))) = (0 : Int32) then (if (F_lct ((S_red (((-2147483648 : Int32) &&& (-2147483648 : Int32)) ||| (x1 &&& (2147483647 : Int32))) (0 : Int32)) + ((x3 &&& (2147483647 : Int32)) - (x1 &&& (2147483647 : Int32))))) = (x3 &&& (2147483647 : Int32)) then (if (F_red (S_red ((S_red (((-2147483648 : Int32) &&& (-2147483648 : Int32)) ||| (x1 &&& (2147483647 : Int32))) (0 : Int32)) + ((x3 &&& (2147483647 : Int32)) - (x1 &&& (2147483647 : Int32)))) (0 : Int32))) = (0 : Int32) then ((1 : Int32)) else ((0 : Int32))) else ((0 : Int32))) else ((0 : Int32))) else ((0 : Int32))))) else (if (F_red (-2147483648 : Int32)) = (0 : Int32) then ((0 : Int32)) else (if (F_red (((-2147483648 : Int32) &&& (-2147483648 : Int32)) ||| (x1 &&& (2147483647 : Int32)))) = (0 : Int32) then ((0 : Int32)) else (if (F_red (S_red (((-2147483648 : Int32) &&& (-2147483648 : Int32)) ||| (x1 &&& (2147483647 : Int32))) (0 : Int32))) = (0 : Int32) then (if (F_red ((S_red (((-2147483648 : Int32) &&& (-2147483648 : Int32)) ||| (x1 &&& (2147483647 : Int32))) (0 : Int32)) + ((x3 &&& (2147483647 : Int32)) - (x1 &&& (2147483647 : Int32))))) = (0 : Int32) then (if (F_lct ((S_red (((-2147483648 : Int32) &&& (-2147483648 : Int32)) ||| (x1 &&& (2147483647 : Int32))) (0 : Int32)) + ((x3 &&& (2147483647 : Int32)) - (x1 &&& (2147483647 : Int32))))) = (x3 &&& (2147483647 : Int32)) then (if (F_red (S_red ((S_red (((-2147483648 : Int32) &&& (-2147483648 : Int32)) ||| (x1 &&& (2147483647 : Int32))) (0 : Int32)) + ((x3 &&& (2147483647 : Int32)) - (x1 &&& (2147483647 : Int32)))) (1 : Int32))) = (1 : Int32) then ((1 : Int32)) else ((0 : Int32))) else ((0 : Int32))) else ((0 : Int32))) else ((0 : Int32)))))) else (if (x2 &&& (2 : Int32)) = (0 : Int32) then (if (F_red (-2147483648 : Int32)) = (0 : Int32) then ((0 : Int32)) else (if (F_red (((-2147483648 : Int32) &&& (-2147483648 : Int32)) ||| (x1 &&& (2147483647 : Int32)))) = (0 : Int32) then ((0 : Int32)) else (if (F_red (S_red (((-2147483648 : Int32) &&& (-2147483648 : Int32)) ||| (x1 &&& (2147483647 : Int32))) (1 : Int32))) = (1 : Int32) then (if (F_red ((S_red (((-2147483648 : Int32) &&& (-2147483648 : Int32)) ||| (x1 &&& (2147483647 : Int32))) (1 : Int32)) + ((x3 &&& (2147483647 : Int32)) - (x1 &&& (2147483647 : Int32))))) = (1 : Int32) then (if (F_lct ((S_red (((-2147483648 : Int32) &&& (-2147483648 : Int32)) ||| (x1 &&& (2147483647 : Int32))) (1 : Int32)) + ((x3 &&& (2147483647 : Int32)) - (x1 &&& (2147483647 : Int32))))) = (x3 &&& (2147483647 : Int32)) then (if (F_red (S_red ((S_red (((-2147483648 : Int32) &&& (-2147483648 : Int32)) ||| (x1 &&& (2147483647 : Int32))) (1 : Int32)) + ((x3 &&& (2147483647 : Int32)) - (x1 &&& (2147483647 : Int32)))) (0 : Int32))) = (0 : Int32) then ((1 : Int32)) else ((0 : Int32))) else ((0 : Int32))) else ((0 : Int32))) else ((0 : Int32))))) else (if (F_red (-2147483648 : Int32)) = (0 : Int32) then ((0 : Int32)) else (if (F_red (((-2147483648 : Int32) &&& (-2147483648 : Int32)) ||| (x1 &&& (2147483647 : Int32)))) = (0 : Int32) then ((0 : Int32)) else (if (F_red (S_red (((-2147483648 : Int32) &&& (-2147483648 : Int32)) ||| (x1 &&& (2147483647 : Int32))) (1 : Int32))) = (1 : Int32) then (if (F_red ((S_red (((-2147483648 : Int32) &&& (-2147483648 : Int32)) ||| (x1 &&& (2147483647 : Int32))) (1 : Int32)) + ((x3 &&& (2147483647 : Int32)) - (x1 &&& (2147483647 : Int32))))) = (1 : Int32) then (if (F_lct ((S_red (((-2147483648 : Int32) &&& (-2147483648 : Int32)) ||| (x1 &&& (2147483647 : Int32))) (1 : Int32)) + ((x3 &&& (2147483647 : Int32)) - (x1 &&& (2147483647 : Int32))))) = (x3 &&& (2147483647 : Int32)) then (if (F_red (S_red ((S_red (((-2147483648 : Int32) &&& (-2147483648 : Int32)) ||| (x1 &&& (2147483647 : Int32))) (1 : Int32)) + ((x3 &&& (2147483647 : Int32)) - (x1 &&& (2147483647 : Int32)))) (1 : Int32))) = (1 : Int32) then ((1 : Int32)) else ((0 : Int32))) else ((0 : Int32))) else ((0 : Int32))) else ((0 : Int32))))))
def Q_law (Z : State) (x0 : Int32) (x1 : Int32) (x2 : Int32) (x3 : Int32) (wc : Addr) (h0 : Heap) (n0 : Nat) (v : Option Value) (h : Heap) (L : List Loc) : Prop := v = some (.int (F_law x0 x1 x2 x3)) ∧ Fr n0 L
set_option maxRecDepth 65536 in
set_option maxHeartbeats 40000000 in
theorem rm_law (l : Launch) (Z : State) (aT : Array Value) (hw : ∀ d ∈ tables_1, d.before aT Z = true) (ws : List Jvm.Cond) (x0 : Int32) (x1 : Int32) (x2 : Int32) (x3 : Int32) (wc : Addr) (h0 : Heap) (n0 : Nat) (Z0 : n0 ≤ h0.size) (hp0 : Sta Z h0 "java/lang/Integer$IntegerCache" "high" "I" (.int (127 : Int32))) (hp1 : Sta Z h0 "java/lang/Integer$IntegerCache" "cache" "[Ljava/lang/Integer;" (.ref wc)) (hp2 : Exa Z h0 wc "[Ljava/lang/Integer;") (hp3 : own_IC Z h0 wc) :
    MetFree l x (head1 (Jvm.Cond.code x code maxLocals ret :: ws) room_1) (fun a U => a = #[(.int x0), (.int x1), (.int x2), (.int x3)] ∧ Z.Warmed39 U.vm ∧ U.heap = h0) (fun _ _ _ _ _ => True) (fun _ U o U' => ∃ v L, o = .returned v ∧ Q_law Z x0 x1 x2 x3 wc h0 n0 v U'.heap L ∧ FrameEnd U o U' L 16 128) := by
  refine MetFree.of_bodySF (plainFor_of_name pn3) hisR ?_
  intro p e s m args below meth c s₁ Bd hml0 hP hK
  obtain ⟨rfl, hZ, hh⟩ := hP
  have hx := Bd.exec
  have hby := Bd.bytes
  have hml : c.maxLocals = 15 := hml0
  have hown : s.vm.findClass "com/example/leanbough/leanbough/NodeRedPinLaw" = some m.cls := findClass_of_methodNamed Bd.named
  have hnm := (name_of_methodNamed Bd.named Bd.method).1
  have hlk := Bd.notSynchronized
  have hrt := Bd.returns
  have X0 : Stand p l e room_1 s m #[(.int x0), (.int x1), (.int x2), (.int x3)] below meth c s₁ [] 0 0 := Stand.of_body Bd
  have e0 : s₁.heap = h0 := by rw [← hh, Bd.state]; rfl
  have N0 := Fr.nil n0
  refine own_cast (P := own_End s (Q_law Z x0 x1 x2 x3 wc h0 n0) 16 128) (ef_law m x0 x1 x2 x3) ?_
  obtain ⟨T45, h45, X45, e45, E45, A45, D45, -, st45⟩ := newO X0 hx hZ hown (hw _ (List.mem_of_getElem? (i := 0) rfl)) (hw _ (List.mem_of_getElem? (i := 1) rfl)) (hw _ (List.mem_of_getElem? (i := 2) rfl)) e0 (g := (mkF m 0 #[.val (.int x0), .val (.int x1), .val (.int x2), .val (.int x3), .unset, .unset, .unset, .unset, .unset, .unset, .unset, .unset, .unset, .unset, .unset] [])) rfl (hb hby at_0) (by decide) (by decide)
  obtain ⟨b45, g45⟩ : ∃ z, z = h0.size := ⟨_, rfl⟩
  rw [← g45] at A45 D45 st45
  have ne46 : wc ≠ b45 := Nat.ne_of_lt (Nat.lt_of_lt_of_le (hp2).lt (Nat.le_of_eq g45.symm))
  have Z45 : n0 ≤ h45.size := Nat.le_trans Z0 E45.1
  have ge45 : n0 ≤ b45 := Nat.le_trans Z0 (Nat.le_of_eq g45.symm)
  have f47 : Fld Z h45 b45 "com/example/leanbough/leanbough/LlrbTreeMap$Node" "key" "Ljava/lang/Object;" .null := D45 (Or.inr (hw _ (List.mem_of_getElem? (i := 17) rfl))) (ty := (.object "java/lang/Object")) (by decide)
  have f48 : Fld Z h45 b45 "com/example/leanbough/leanbough/LlrbTreeMap$Node" "value" "Ljava/lang/Object;" .null := D45 (Or.inl (hw _ (List.mem_of_getElem? (i := 19) rfl))) (ty := (.object "java/lang/Object")) (by decide)
  have f49 : Fld Z h45 b45 "com/example/leanbough/leanbough/LlrbTreeMap$Node" "colourAndLeftCount" "I" (.int (0 : Int32)) := D45 (Or.inl (hw _ (List.mem_of_getElem? (i := 22) rfl))) (ty := .int) (by decide)
  refine own_go st45 ?_
  show own_Got p e below _ T45 (mkF m 3 #[.val (.int x0), .val (.int x1), .val (.int x2), .val (.int x3), .unset, .unset, .unset, .unset, .unset, .unset, .unset, .unset, .unset, .unset, .unset] [(.ref b45)])
  refine g_dup X45 hx hby at_3 rfl (rfl : 3 + 1 = 4) ?_
  refine g_iloadN X45 hx hby at_4 rfl (rfl : 4 + 1 = 5) ?_
  have f51 : Sta Z h45 "java/lang/Integer$IntegerCache" "high" "I" (.int (127 : Int32)) := (Sta.ext E45 hp0)
  have f52 : Sta Z h45 "java/lang/Integer$IntegerCache" "cache" "[Ljava/lang/Integer;" (.ref wc) := (Sta.ext E45 hp1)
  have f53 : Exa Z h45 wc "[Ljava/lang/Integer;" := (Exa.ext E45 hp2)
  have f54 : own_IC Z h45 wc := (own_IC_ext hp3 E45)
  obtain ⟨_, _, ⟨T50, L50, k50, n50⟩, -, X50, ⟨Lc50, hQ50, l50, y50, z50⟩, st50⟩ := Jvm.LawKit.callS X45 hx (y := (⟨"java/lang/Integer", "valueOf", "(I)Ljava/lang/Integer;"⟩ : MethodName)) hown (mvT hZ (hw _ (List.mem_of_getElem? (i := 3) rfl))) (mvT hZ (hw _ (List.mem_of_getElem? (i := 4) rfl))) (mvT hZ (hw _ (List.mem_of_getElem? (i := 5) rfl))) (mvT hZ (hw _ (List.mem_of_getElem? (i := 6) rfl))) (by decide) (backOf (W := 2) (rm_vof l Z aT hw [] x0 wc h45 n0 Z45 f51 f52 f53 f54) hZ (hw _ (List.mem_of_getElem? (i := 6) rfl)) (hw _ (List.mem_of_getElem? (i := 5) rfl)) (by decide) (by decide)) (g := (mkF m 5 #[.val (.int x0), .val (.int x1), .val (.int x2), .val (.int x3), .unset, .unset, .unset, .unset, .unset, .unset, .unset, .unset, .unset, .unset, .unset] [(.int x0), (.ref b45), (.ref b45)])) rfl (by rw [hml]; rfl) (argsL := [(.int x0)]) (rest := [(.ref b45), (.ref b45)]) (lenOf pd2 rfl) rfl (by show 2 * 0 + _ ≤ _; exact Nat.le_of_eq rfl) (hb hby at_5) (fun _ _ => ⟨rfl, e45, (by decide : 1 + 1 ≤ _), (by decide : 5 + 1 ≤ _)⟩)
  dsimp only [Pt.U, Pt.locs, Pt.cells, Pt.slots] at X50 l50 y50 z50 st50 hQ50
  subst l50 y50 z50
  obtain ⟨r_50, rfl, N50q, K50⟩ := hQ50
  have N50 := Fr.app N0 N50q
  have Z50 : n0 ≤ T50.heap.size := Nat.le_trans Z45 K50.1
  refine own_go st50 ?_
  show own_Got p e below _ T50 (mkF m 8 #[.val (.int x0), .val (.int x1), .val (.int x2), .val (.int x3), .unset, .unset, .unset, .unset, .unset, .unset, .unset, .unset, .unset, .unset, .unset] [(.ref r_50), (.ref b45), (.ref b45)])
  refine g_iloadN X50 hx hby at_8 rfl (rfl : 8 + 1 = 9) ?_
  have f56 : Sta Z T50.heap "java/lang/Integer$IntegerCache" "high" "I" (.int (127 : Int32)) := (own_stakeep0 f51 K50)
  have f57 : Sta Z T50.heap "java/lang/Integer$IntegerCache" "cache" "[Ljava/lang/Integer;" (.ref wc) := (own_stakeep0 f52 K50)
  have f58 : Exa Z T50.heap wc "[Ljava/lang/Integer;" := (Exa.keep f53 K50)
  have f59 : own_IC Z T50.heap wc := (own_IC_keep f54 K50 nin0)
  have f60 : Exa Z T50.heap b45 "com/example/leanbough/leanbough/LlrbTreeMap$Node" := (Exa.keep A45 K50)
  obtain ⟨_, _, ⟨T55, L55, k55, n55⟩, -, X55, ⟨Lc55, hQ55, l55, y55, z55⟩, st55⟩ := Jvm.LawKit.callS X50 hx (y := (⟨"java/lang/Integer", "valueOf", "(I)Ljava/lang/Integer;"⟩ : MethodName)) hown (mvT hZ (hw _ (List.mem_of_getElem? (i := 3) rfl))) (mvT hZ (hw _ (List.mem_of_getElem? (i := 4) rfl))) (mvT hZ (hw _ (List.mem_of_getElem? (i := 5) rfl))) (mvT hZ (hw _ (List.mem_of_getElem? (i := 6) rfl))) (by decide) (backOf (W := 3) (rm_vof l Z aT hw [] x1 wc T50.heap n0 Z50 f56 f57 f58 f59) hZ (hw _ (List.mem_of_getElem? (i := 6) rfl)) (hw _ (List.mem_of_getElem? (i := 5) rfl)) (by decide) (by decide)) (g := (mkF m 9 #[.val (.int x0), .val (.int x1), .val (.int x2), .val (.int x3), .unset, .unset, .unset, .unset, .unset, .unset, .unset, .unset, .unset, .unset, .unset] [(.int x1), (.ref r_50), (.ref b45), (.ref b45)])) rfl (by rw [hml]; rfl) (argsL := [(.int x1)]) (rest := [(.ref r_50), (.ref b45), (.ref b45)]) (lenOf pd2 rfl) rfl (by show 2 * 0 + _ ≤ _; exact Nat.le_of_eq rfl) (hb hby at_9) (fun _ _ => ⟨rfl, rfl, (by decide : 2 + 1 ≤ _), (by decide : 6 + 1 ≤ _)⟩)
  dsimp only [Pt.U, Pt.locs, Pt.cells, Pt.slots] at X55 l55 y55 z55 st55 hQ55
  subst l55 y55 z55
  obtain ⟨r_55, rfl, N55q, K55⟩ := hQ55
  have N55 := Fr.app N50 N55q
  have Z55 : n0 ≤ T55.heap.size := Nat.le_trans Z50 K55.1
  refine own_go st55 ?_
  show own_Got p e below _ T55 (mkF m 12 #[.val (.int x0), .val (.int x1), .val (.int x2), .val (.int x3), .unset, .unset, .unset, .unset, .unset, .unset, .unset, .unset, .unset, .unset, .unset] [(.ref r_55), (.ref r_50), (.ref b45), (.ref b45)])
  have f62 : Exa Z T55.heap b45 "com/example/leanbough/leanbough/LlrbTreeMap$Node" := (Exa.keep f60 K55)
  have f63 : Fld Z T55.heap b45 "com/example/leanbough/leanbough/LlrbTreeMap$Node" "key" "Ljava/lang/Object;" .null := (Fld.keep (Fld.keep f47 K50 nin0) K55 nin0)
  have f64 : Fld Z T55.heap b45 "com/example/leanbough/leanbough/LlrbTreeMap$Node" "value" "Ljava/lang/Object;" .null := (Fld.keep (Fld.keep f48 K50 nin0) K55 nin0)
  have f65 : Fld Z T55.heap b45 "com/example/leanbough/leanbough/LlrbTreeMap$Node" "colourAndLeftCount" "I" (.int (0 : Int32)) := (Fld.keep (Fld.keep f49 K50 nin0) K55 nin0)
  have f66 : Exa Z T55.heap wc "[Ljava/lang/Integer;" := (Exa.keep f58 K55)
  obtain ⟨_, _, ⟨T61, L61, k61, n61⟩, -, X61, ⟨Lc61, hQ61, l61, y61, z61⟩, st61⟩ := X55.specialBack hx (y := (⟨"com/example/leanbough/leanbough/LlrbTreeMap$Node", "<init>", "(Ljava/lang/Object;Ljava/lang/Object;)V"⟩ : MethodName)) rfl hown (mvT hZ (hw _ (List.mem_of_getElem? (i := 10) rfl))) (mvT hZ (hw _ (List.mem_of_getElem? (i := 11) rfl))) (mvT hZ (hw _ (List.mem_of_getElem? (i := 12) rfl))) (by decide) (backOf (W := 1) (rm_ini l Z aT hw [] b45 r_50 r_55 T55.heap n0 Z55 f62 f63 f64 f65 ge45) hZ (hw _ (List.mem_of_getElem? (i := 12) rfl)) (hw _ (List.mem_of_getElem? (i := 2) rfl)) (by decide) (by decide)) (g := (mkF m 12 #[.val (.int x0), .val (.int x1), .val (.int x2), .val (.int x3), .unset, .unset, .unset, .unset, .unset, .unset, .unset, .unset, .unset, .unset, .unset] [(.ref r_55), (.ref r_50), (.ref b45), (.ref b45)])) rfl (by rw [hml]; rfl) (Steps.refl _) (a := b45) (argsL := [(.ref r_50), (.ref r_55)]) (rest := [(.ref b45)]) (lenOf pd3 rfl) rfl (by show 2 * 0 + _ ≤ _; exact Nat.le_of_eq rfl) (hb hby at_12) (fun _ _ => ⟨rfl, rfl, (by decide : 3 + 0 ≤ _), (by decide : 7 + 0 ≤ _)⟩)
  dsimp only [Pt.U, Pt.locs, Pt.cells, Pt.slots] at X61 l61 y61 z61 st61 hQ61
  subst l61 y61 z61
  obtain ⟨rfl, N61q, K61, q61_0, q61_1⟩ := hQ61
  have N61 := Fr.app N55 N61q
  have Z61 : n0 ≤ T61.heap.size := Nat.le_trans Z55 K61.1
  refine own_tr st61 ?_
  show own_Got p e below _ T61 (mkF m 15 #[.val (.int x0), .val (.int x1), .val (.int x2), .val (.int x3), .unset, .unset, .unset, .unset, .unset, .unset, .unset, .unset, .unset, .unset, .unset] [(.ref b45)])
  refine g_astore X61 hx hby #[.val (.int x0), .val (.int x1), .val (.int x2), .val (.int x3), .val (.ref b45), .unset, .unset, .unset, .unset, .unset, .unset, .unset, .unset, .unset, .unset] at_15 rfl rfl (rfl : 15 + 2 = 17) ?_
  refine g_aload X61 hx hby at_17 rfl rfl (rfl : 17 + 2 = 19) ?_
  obtain ⟨cq67, kq67, q67a, q67b, q67c⟩ := isOf hZ rfl q61_0
  obtain ⟨_, _, ⟨T67, L67, k67, n67⟩, -, X67, ⟨Lc67, hQ67, l67, y67, z67⟩, st67⟩ := X61.virtualBack hx (y := (⟨"com/example/leanbough/leanbough/LlrbTreeMap$Node", "red", "()Z"⟩ : MethodName)) (z := (⟨"com/example/leanbough/leanbough/LlrbTreeMap$Node", "red", "()Z"⟩ : MethodName)) hown (mvT hZ (hw _ (List.mem_of_getElem? (i := 23) rfl))) (mvT hZ (hw _ (List.mem_of_getElem? (i := 24) rfl))) (notFace_of_selects (args := #[]) (mvT hZ (hw _ (List.mem_of_getElem? (i := 26) rfl)))) (mvT hZ (hw _ (List.mem_of_getElem? (i := 26) rfl))) (mvT hZ (hw _ (List.mem_of_getElem? (i := 25) rfl))) (by decide) (backOf (W := 0) (rm_red l Z aT hw [] b45 (-2147483648 : Int32) T61.heap n0 Z61 q61_1) hZ (hw _ (List.mem_of_getElem? (i := 27) rfl)) (hw _ (List.mem_of_getElem? (i := 2) rfl)) (by decide) (by decide)) q67a q67c (g := (mkF m 19 #[.val (.int x0), .val (.int x1), .val (.int x2), .val (.int x3), .val (.ref b45), .unset, .unset, .unset, .unset, .unset, .unset, .unset, .unset, .unset, .unset] [(.ref b45)])) rfl (by rw [hml]; rfl) (Steps.refl _) (argsL := []) (rest := []) (lenOf pd4 rfl) rfl (by show 2 * 0 + _ ≤ _; exact Nat.le_of_eq rfl) (hb hby at_19) (fun _ _ => ⟨rfl, rfl, (by decide : 3 + 0 ≤ _), (by decide : 7 + 0 ≤ _)⟩)
  dsimp only [Pt.U, Pt.locs, Pt.cells, Pt.slots] at X67 l67 y67 z67 st67 hQ67
  subst l67 y67 z67
  obtain ⟨rfl, N67q, eq67⟩ := hQ67
  have N67 := Fr.app N61 N67q
  refine own_tr st67 ?_
  show own_Got p e below _ T67 (mkF m 22 #[.val (.int x0), .val (.int x1), .val (.int x2), .val (.int x3), .val (.ref b45), .unset, .unset, .unset, .unset, .unset, .unset, .unset, .unset, .unset, .unset] [(.int (F_red (-2147483648 : Int32)))])
  refine g_istore X67 hx hby #[.val (.int x0), .val (.int x1), .val (.int x2), .val (.int x3), .val (.ref b45), .val (.int (F_red (-2147483648 : Int32))), .unset, .unset, .unset, .unset, .unset, .unset, .unset, .unset, .unset] at_22 rfl (rfl : 22 + 2 = 24) ?_
  refine g_iloadN X67 hx hby at_24 rfl (rfl : 24 + 1 = 25) ?_
  refine g_ldcI X67 hx hby hZ hown (hw _ (List.mem_of_getElem? (i := 28) rfl)) at_25 (rfl : 25 + 2 = 27) ?_
  refine g_iand X67 hx hby at_27 (rfl : 27 + 1 = 28) ?_
  refine g_istore X67 hx hby #[.val (.int x0), .val (.int x1), .val (.int x2), .val (.int x3), .val (.ref b45), .val (.int (F_red (-2147483648 : Int32))), .val (.int (x1 &&& (2147483647 : Int32))), .unset, .unset, .unset, .unset, .unset, .unset, .unset, .unset] at_28 rfl (rfl : 28 + 2 = 30) ?_
  refine g_aload X67 hx hby at_30 rfl rfl (rfl : 30 + 2 = 32) ?_
  refine g_iload X67 hx hby at_32 rfl (rfl : 32 + 2 = 34) ?_
  have f69 : Exa Z T61.heap wc "[Ljava/lang/Integer;" := (Exa.keep f66 K61)
  obtain ⟨cq68, kq68, q68a, q68b, q68c⟩ := isOf hZ eq67 q61_0
  obtain ⟨_, _, ⟨T68, L68, k68, n68⟩, -, X68, ⟨Lc68, hQ68, l68, y68, z68⟩, st68⟩ := X67.virtualBack hx (y := (⟨"com/example/leanbough/leanbough/LlrbTreeMap$Node", "setLeftCount", "(I)V"⟩ : MethodName)) (z := (⟨"com/example/leanbough/leanbough/LlrbTreeMap$Node", "setLeftCount", "(I)V"⟩ : MethodName)) hown (mvT hZ (hw _ (List.mem_of_getElem? (i := 29) rfl))) (mvT hZ (hw _ (List.mem_of_getElem? (i := 30) rfl))) (notFace_of_selects (args := #[]) (mvT hZ (hw _ (List.mem_of_getElem? (i := 32) rfl)))) (mvT hZ (hw _ (List.mem_of_getElem? (i := 32) rfl))) (mvT hZ (hw _ (List.mem_of_getElem? (i := 31) rfl))) (by decide) (backOf (W := 0) (rm_slc l Z aT hw [] b45 (x1 &&& (2147483647 : Int32)) (-2147483648 : Int32) T61.heap n0 Z61 q61_0 q61_1 ge45) hZ (hw _ (List.mem_of_getElem? (i := 33) rfl)) (hw _ (List.mem_of_getElem? (i := 2) rfl)) (by decide) (by decide)) q68a q68c (g := (mkF m 34 #[.val (.int x0), .val (.int x1), .val (.int x2), .val (.int x3), .val (.ref b45), .val (.int (F_red (-2147483648 : Int32))), .val (.int (x1 &&& (2147483647 : Int32))), .unset, .unset, .unset, .unset, .unset, .unset, .unset, .unset] [(.int (x1 &&& (2147483647 : Int32))), (.ref b45)])) rfl (by rw [hml]; rfl) (Steps.refl _) (argsL := [(.int (x1 &&& (2147483647 : Int32)))]) (rest := []) (lenOf pd1 rfl) rfl (by show 2 * 0 + _ ≤ _; exact Nat.le_of_eq rfl) (hb hby at_34) (fun _ _ => ⟨rfl, eq67, (by decide : 3 + 0 ≤ _), (by decide : 7 + 0 ≤ _)⟩)
  dsimp only [Pt.U, Pt.locs, Pt.cells, Pt.slots] at X68 l68 y68 z68 st68 hQ68
  subst l68 y68 z68
  obtain ⟨rfl, N68q, K68, q68_0, q68_1⟩ := hQ68
  have N68 := Fr.app N67 N68q
  have Z68 : n0 ≤ T68.heap.size := Nat.le_trans Z61 K68.1
  refine own_tr st68 ?_
  show own_Got p e below _ T68 (mkF m 37 #[.val (.int x0), .val (.int x1), .val (.int x2), .val (.int x3), .val (.ref b45), .val (.int (F_red (-2147483648 : Int32))), .val (.int (x1 &&& (2147483647 : Int32))), .unset, .unset, .unset, .unset, .unset, .unset, .unset, .unset] [])
  refine g_aload X68 hx hby at_37 rfl rfl (rfl : 37 + 2 = 39) ?_
  obtain ⟨cq70, kq70, q70a, q70b, q70c⟩ := isOf hZ rfl q68_0
  obtain ⟨_, _, ⟨T70, L70, k70, n70⟩, -, X70, ⟨Lc70, hQ70, l70, y70, z70⟩, st70⟩ := X68.virtualBack hx (y := (⟨"com/example/leanbough/leanbough/LlrbTreeMap$Node", "red", "()Z"⟩ : MethodName)) (z := (⟨"com/example/leanbough/leanbough/LlrbTreeMap$Node", "red", "()Z"⟩ : MethodName)) hown (mvT hZ (hw _ (List.mem_of_getElem? (i := 23) rfl))) (mvT hZ (hw _ (List.mem_of_getElem? (i := 24) rfl))) (notFace_of_selects (args := #[]) (mvT hZ (hw _ (List.mem_of_getElem? (i := 26) rfl)))) (mvT hZ (hw _ (List.mem_of_getElem? (i := 26) rfl))) (mvT hZ (hw _ (List.mem_of_getElem? (i := 25) rfl))) (by decide) (backOf (W := 0) (rm_red l Z aT hw [] b45 (((-2147483648 : Int32) &&& (-2147483648 : Int32)) ||| (x1 &&& (2147483647 : Int32))) T68.heap n0 Z68 q68_1) hZ (hw _ (List.mem_of_getElem? (i := 27) rfl)) (hw _ (List.mem_of_getElem? (i := 2) rfl)) (by decide) (by decide)) q70a q70c (g := (mkF m 39 #[.val (.int x0), .val (.int x1), .val (.int x2), .val (.int x3), .val (.ref b45), .val (.int (F_red (-2147483648 : Int32))), .val (.int (x1 &&& (2147483647 : Int32))), .unset, .unset, .unset, .unset, .unset, .unset, .unset, .unset] [(.ref b45)])) rfl (by rw [hml]; rfl) (Steps.refl _) (argsL := []) (rest := []) (lenOf pd4 rfl) rfl (by show 2 * 0 + _ ≤ _; exact Nat.le_of_eq rfl) (hb hby at_39) (fun _ _ => ⟨rfl, rfl, (by decide : 3 + 0 ≤ _), (by decide : 7 + 0 ≤ _)⟩)
  dsimp only [Pt.U, Pt.locs, Pt.cells, Pt.slots] at X70 l70 y70 z70 st70 hQ70
  subst l70 y70 z70
  obtain ⟨rfl, N70q, eq70⟩ := hQ70
  have N70 := Fr.app N68 N70q
  refine own_tr st70 ?_
  show own_Got p e below _ T70 (mkF m 42 #[.val (.int x0), .val (.int x1), .val (.int x2), .val (.int x3), .val (.ref b45), .val (.int (F_red (-2147483648 : Int32))), .val (.int (x1 &&& (2147483647 : Int32))), .unset, .unset, .unset, .unset, .unset, .unset, .unset, .unset] [(.int (F_red (((-2147483648 : Int32) &&& (-2147483648 : Int32)) ||| (x1 &&& (2147483647 : Int32)))))])
  refine g_istore X70 hx hby #[.val (.int x0), .val (.int x1), .val (.int x2), .val (.int x3), .val (.ref b45), .val (.int (F_red (-2147483648 : Int32))), .val (.int (x1 &&& (2147483647 : Int32))), .val (.int (F_red (((-2147483648 : Int32) &&& (-2147483648 : Int32)) ||| (x1 &&& (2147483647 : Int32))))), .unset, .unset, .unset, .unset, .unset, .unset, .unset] at_42 rfl (rfl : 42 + 2 = 44) ?_
  refine g_iloadN X70 hx hby at_44 rfl (rfl : 44 + 1 = 45) ?_
  refine g_iconst X70 hx hby (1 : Int32) at_45 (by decide) (rfl : 45 + 1 = 46) ?_
  refine g_iand X70 hx hby at_46 (rfl : 46 + 1 = 47) ?_
  by_cases c71 : (x2 &&& (1 : Int32)) = (0 : Int32)
  · refine g_ifT X70 hx hby at_47 ((if0 _ _).trans (teq c71).1) (by decide) (pc' := 54) (by decide) ?_
    refine g_iconst X70 hx hby (0 : Int32) at_54 (by decide) (rfl : 54 + 1 = 55) ?_
    refine g_istore X70 hx hby #[.val (.int x0), .val (.int x1), .val (.int x2), .val (.int x3), .val (.ref b45), .val (.int (F_red (-2147483648 : Int32))), .val (.int (x1 &&& (2147483647 : Int32))), .val (.int (F_red (((-2147483648 : Int32) &&& (-2147483648 : Int32)) ||| (x1 &&& (2147483647 : Int32))))), .val (.int (0 : Int32)), .unset, .unset, .unset, .unset, .unset, .unset] at_55 rfl (rfl : 55 + 2 = 57) ?_
    refine g_aload X70 hx hby at_57 rfl rfl (rfl : 57 + 2 = 59) ?_
    refine g_iload X70 hx hby at_59 rfl (rfl : 59 + 2 = 61) ?_
    have f73 : Exa Z T68.heap wc "[Ljava/lang/Integer;" := (Exa.keep f69 K68)
    obtain ⟨cq72, kq72, q72a, q72b, q72c⟩ := isOf hZ eq70 q68_0
    obtain ⟨_, _, ⟨T72, L72, k72, n72⟩, -, X72, ⟨Lc72, hQ72, l72, y72, z72⟩, st72⟩ := X70.virtualBack hx (y := (⟨"com/example/leanbough/leanbough/LlrbTreeMap$Node", "setRed", "(Z)V"⟩ : MethodName)) (z := (⟨"com/example/leanbough/leanbough/LlrbTreeMap$Node", "setRed", "(Z)V"⟩ : MethodName)) hown (mvT hZ (hw _ (List.mem_of_getElem? (i := 34) rfl))) (mvT hZ (hw _ (List.mem_of_getElem? (i := 35) rfl))) (notFace_of_selects (args := #[]) (mvT hZ (hw _ (List.mem_of_getElem? (i := 37) rfl)))) (mvT hZ (hw _ (List.mem_of_getElem? (i := 37) rfl))) (mvT hZ (hw _ (List.mem_of_getElem? (i := 36) rfl))) (by decide) (backOf (W := 0) (rm_srd l Z aT hw [] b45 (0 : Int32) (((-2147483648 : Int32) &&& (-2147483648 : Int32)) ||| (x1 &&& (2147483647 : Int32))) T68.heap n0 Z68 q68_0 q68_1 ge45) hZ (hw _ (List.mem_of_getElem? (i := 38) rfl)) (hw _ (List.mem_of_getElem? (i := 2) rfl)) (by decide) (by decide)) q72a q72c (g := (mkF m 61 #[.val (.int x0), .val (.int x1), .val (.int x2), .val (.int x3), .val (.ref b45), .val (.int (F_red (-2147483648 : Int32))), .val (.int (x1 &&& (2147483647 : Int32))), .val (.int (F_red (((-2147483648 : Int32) &&& (-2147483648 : Int32)) ||| (x1 &&& (2147483647 : Int32))))), .val (.int (0 : Int32)), .unset, .unset, .unset, .unset, .unset, .unset] [(.int (0 : Int32)), (.ref b45)])) rfl (by rw [hml]; rfl) (Steps.refl _) (argsL := [(.int (0 : Int32))]) (rest := []) (lenOf pd5 rfl) rfl (by show 2 * 0 + _ ≤ _; exact Nat.le_of_eq rfl) (hb hby at_61) (fun _ _ => ⟨rfl, eq70, (by decide : 3 + 0 ≤ _), (by decide : 7 + 0 ≤ _)⟩)
    dsimp only [Pt.U, Pt.locs, Pt.cells, Pt.slots] at X72 l72 y72 z72 st72 hQ72
    subst l72 y72 z72
    obtain ⟨rfl, N72q, K72, q72_0, q72_1⟩ := hQ72
    have N72 := Fr.app N70 N72q
    have Z72 : n0 ≤ T72.heap.size := Nat.le_trans Z68 K72.1
    refine own_tr st72 ?_
    show own_Got p e below _ T72 (mkF m 64 #[.val (.int x0), .val (.int x1), .val (.int x2), .val (.int x3), .val (.ref b45), .val (.int (F_red (-2147483648 : Int32))), .val (.int (x1 &&& (2147483647 : Int32))), .val (.int (F_red (((-2147483648 : Int32) &&& (-2147483648 : Int32)) ||| (x1 &&& (2147483647 : Int32))))), .val (.int (0 : Int32)), .unset, .unset, .unset, .unset, .unset, .unset] [])
    refine g_aload X72 hx hby at_64 rfl rfl (rfl : 64 + 2 = 66) ?_
    obtain ⟨cq74, kq74, q74a, q74b, q74c⟩ := isOf hZ rfl q72_0
    obtain ⟨_, _, ⟨T74, L74, k74, n74⟩, -, X74, ⟨Lc74, hQ74, l74, y74, z74⟩, st74⟩ := X72.virtualBack hx (y := (⟨"com/example/leanbough/leanbough/LlrbTreeMap$Node", "red", "()Z"⟩ : MethodName)) (z := (⟨"com/example/leanbough/leanbough/LlrbTreeMap$Node", "red", "()Z"⟩ : MethodName)) hown (mvT hZ (hw _ (List.mem_of_getElem? (i := 23) rfl))) (mvT hZ (hw _ (List.mem_of_getElem? (i := 24) rfl))) (notFace_of_selects (args := #[]) (mvT hZ (hw _ (List.mem_of_getElem? (i := 26) rfl)))) (mvT hZ (hw _ (List.mem_of_getElem? (i := 26) rfl))) (mvT hZ (hw _ (List.mem_of_getElem? (i := 25) rfl))) (by decide) (backOf (W := 0) (rm_red l Z aT hw [] b45 (S_red (((-2147483648 : Int32) &&& (-2147483648 : Int32)) ||| (x1 &&& (2147483647 : Int32))) (0 : Int32)) T72.heap n0 Z72 q72_1) hZ (hw _ (List.mem_of_getElem? (i := 27) rfl)) (hw _ (List.mem_of_getElem? (i := 2) rfl)) (by decide) (by decide)) q74a q74c (g := (mkF m 66 #[.val (.int x0), .val (.int x1), .val (.int x2), .val (.int x3), .val (.ref b45), .val (.int (F_red (-2147483648 : Int32))), .val (.int (x1 &&& (2147483647 : Int32))), .val (.int (F_red (((-2147483648 : Int32) &&& (-2147483648 : Int32)) ||| (x1 &&& (2147483647 : Int32))))), .val (.int (0 : Int32)), .unset, .unset, .unset, .unset, .unset, .unset] [(.ref b45)])) rfl (by rw [hml]; rfl) (Steps.refl _) (argsL := []) (rest := []) (lenOf pd4 rfl) rfl (by show 2 * 0 + _ ≤ _; exact Nat.le_of_eq rfl) (hb hby at_66) (fun _ _ => ⟨rfl, rfl, (by decide : 3 + 0 ≤ _), (by decide : 7 + 0 ≤ _)⟩)
    dsimp only [Pt.U, Pt.locs, Pt.cells, Pt.slots] at X74 l74 y74 z74 st74 hQ74
    subst l74 y74 z74
    obtain ⟨rfl, N74q, eq74⟩ := hQ74
    have N74 := Fr.app N72 N74q
    refine own_tr st74 ?_
    show own_Got p e below _ T74 (mkF m 69 #[.val (.int x0), .val (.int x1), .val (.int x2), .val (.int x3), .val (.ref b45), .val (.int (F_red (-2147483648 : Int32))), .val (.int (x1 &&& (2147483647 : Int32))), .val (.int (F_red (((-2147483648 : Int32) &&& (-2147483648 : Int32)) ||| (x1 &&& (2147483647 : Int32))))), .val (.int (0 : Int32)), .unset, .unset, .unset, .unset, .unset, .unset] [(.int (F_red (S_red (((-2147483648 : Int32) &&& (-2147483648 : Int32)) ||| (x1 &&& (2147483647 : Int32))) (0 : Int32))))])
    refine g_istore X74 hx hby #[.val (.int x0), .val (.int x1), .val (.int x2), .val (.int x3), .val (.ref b45), .val (.int (F_red (-2147483648 : Int32))), .val (.int (x1 &&& (2147483647 : Int32))), .val (.int (F_red (((-2147483648 : Int32) &&& (-2147483648 : Int32)) ||| (x1 &&& (2147483647 : Int32))))), .val (.int (0 : Int32)), .val (.int (F_red (S_red (((-2147483648 : Int32) &&& (-2147483648 : Int32)) ||| (x1 &&& (2147483647 : Int32))) (0 : Int32)))), .unset, .unset, .unset, .unset, .unset] at_69 rfl (rfl : 69 + 2 = 71) ?_
    refine g_iloadN X74 hx hby at_71 rfl (rfl : 71 + 1 = 72) ?_
    refine g_ldcI X74 hx hby hZ hown (hw _ (List.mem_of_getElem? (i := 28) rfl)) at_72 (rfl : 72 + 2 = 74) ?_
    refine g_iand X74 hx hby at_74 (rfl : 74 + 1 = 75) ?_
    refine g_istore X74 hx hby #[.val (.int x0), .val (.int x1), .val (.int x2), .val (.int x3), .val (.ref b45), .val (.int (F_red (-2147483648 : Int32))), .val (.int (x1 &&& (2147483647 : Int32))), .val (.int (F_red (((-2147483648 : Int32) &&& (-2147483648 : Int32)) ||| (x1 &&& (2147483647 : Int32))))), .val (.int (0 : Int32)), .val (.int (F_red (S_red (((-2147483648 : Int32) &&& (-2147483648 : Int32)) ||| (x1 &&& (2147483647 : Int32))) (0 : Int32)))), .val (.int (x3 &&& (2147483647 : Int32))), .unset, .unset, .unset, .unset] at_75 rfl (rfl : 75 + 2 = 77) ?_
    refine g_aload X74 hx hby at_77 rfl rfl (rfl : 77 + 2 = 79) ?_
    refine g_iload X74 hx hby at_79 rfl (rfl : 79 + 2 = 81) ?_
    refine g_iload X74 hx hby at_81 rfl (rfl : 81 + 2 = 83) ?_
    refine g_isub X74 hx hby at_83 (rfl : 83 + 1 = 84) ?_
    have f76 : Exa Z T72.heap wc "[Ljava/lang/Integer;" := (Exa.keep f73 K72)
    obtain ⟨cq75, kq75, q75a, q75b, q75c⟩ := isOf hZ eq74 q72_0
    obtain ⟨_, _, ⟨T75, L75, k75, n75⟩, -, X75, ⟨Lc75, hQ75, l75, y75, z75⟩, st75⟩ := X74.virtualBack hx (y := (⟨"com/example/leanbough/leanbough/LlrbTreeMap$Node", "addToLeftCount", "(I)V"⟩ : MethodName)) (z := (⟨"com/example/leanbough/leanbough/LlrbTreeMap$Node", "addToLeftCount", "(I)V"⟩ : MethodName)) hown (mvT hZ (hw _ (List.mem_of_getElem? (i := 40) rfl))) (mvT hZ (hw _ (List.mem_of_getElem? (i := 41) rfl))) (notFace_of_selects (args := #[]) (mvT hZ (hw _ (List.mem_of_getElem? (i := 43) rfl)))) (mvT hZ (hw _ (List.mem_of_getElem? (i := 43) rfl))) (mvT hZ (hw _ (List.mem_of_getElem? (i := 42) rfl))) (by decide) (backOf (W := 0) (rm_alc l Z aT hw [] b45 ((x3 &&& (2147483647 : Int32)) - (x1 &&& (2147483647 : Int32))) (S_red (((-2147483648 : Int32) &&& (-2147483648 : Int32)) ||| (x1 &&& (2147483647 : Int32))) (0 : Int32)) T72.heap n0 Z72 q72_0 q72_1 ge45) hZ (hw _ (List.mem_of_getElem? (i := 44) rfl)) (hw _ (List.mem_of_getElem? (i := 2) rfl)) (by decide) (by decide)) q75a q75c (g := (mkF m 84 #[.val (.int x0), .val (.int x1), .val (.int x2), .val (.int x3), .val (.ref b45), .val (.int (F_red (-2147483648 : Int32))), .val (.int (x1 &&& (2147483647 : Int32))), .val (.int (F_red (((-2147483648 : Int32) &&& (-2147483648 : Int32)) ||| (x1 &&& (2147483647 : Int32))))), .val (.int (0 : Int32)), .val (.int (F_red (S_red (((-2147483648 : Int32) &&& (-2147483648 : Int32)) ||| (x1 &&& (2147483647 : Int32))) (0 : Int32)))), .val (.int (x3 &&& (2147483647 : Int32))), .unset, .unset, .unset, .unset] [(.int ((x3 &&& (2147483647 : Int32)) - (x1 &&& (2147483647 : Int32)))), (.ref b45)])) rfl (by rw [hml]; rfl) (Steps.refl _) (argsL := [(.int ((x3 &&& (2147483647 : Int32)) - (x1 &&& (2147483647 : Int32))))]) (rest := []) (lenOf pd1 rfl) rfl (by show 2 * 0 + _ ≤ _; exact Nat.le_of_eq rfl) (hb hby at_84) (fun _ _ => ⟨rfl, eq74, (by decide : 3 + 0 ≤ _), (by decide : 7 + 0 ≤ _)⟩)
    dsimp only [Pt.U, Pt.locs, Pt.cells, Pt.slots] at X75 l75 y75 z75 st75 hQ75
    subst l75 y75 z75
    obtain ⟨rfl, N75q, K75, q75_0, q75_1⟩ := hQ75
    have N75 := Fr.app N74 N75q
    have Z75 : n0 ≤ T75.heap.size := Nat.le_trans Z72 K75.1
    refine own_tr st75 ?_
    show own_Got p e below _ T75 (mkF m 87 #[.val (.int x0), .val (.int x1), .val (.int x2), .val (.int x3), .val (.ref b45), .val (.int (F_red (-2147483648 : Int32))), .val (.int (x1 &&& (2147483647 : Int32))), .val (.int (F_red (((-2147483648 : Int32) &&& (-2147483648 : Int32)) ||| (x1 &&& (2147483647 : Int32))))), .val (.int (0 : Int32)), .val (.int (F_red (S_red (((-2147483648 : Int32) &&& (-2147483648 : Int32)) ||| (x1 &&& (2147483647 : Int32))) (0 : Int32)))), .val (.int (x3 &&& (2147483647 : Int32))), .unset, .unset, .unset, .unset] [])
    refine g_aload X75 hx hby at_87 rfl rfl (rfl : 87 + 2 = 89) ?_
    obtain ⟨cq77, kq77, q77a, q77b, q77c⟩ := isOf hZ rfl q75_0
    obtain ⟨_, _, ⟨T77, L77, k77, n77⟩, -, X77, ⟨Lc77, hQ77, l77, y77, z77⟩, st77⟩ := X75.virtualBack hx (y := (⟨"com/example/leanbough/leanbough/LlrbTreeMap$Node", "red", "()Z"⟩ : MethodName)) (z := (⟨"com/example/leanbough/leanbough/LlrbTreeMap$Node", "red", "()Z"⟩ : MethodName)) hown (mvT hZ (hw _ (List.mem_of_getElem? (i := 23) rfl))) (mvT hZ (hw _ (List.mem_of_getElem? (i := 24) rfl))) (notFace_of_selects (args := #[]) (mvT hZ (hw _ (List.mem_of_getElem? (i := 26) rfl)))) (mvT hZ (hw _ (List.mem_of_getElem? (i := 26) rfl))) (mvT hZ (hw _ (List.mem_of_getElem? (i := 25) rfl))) (by decide) (backOf (W := 0) (rm_red l Z aT hw [] b45 ((S_red (((-2147483648 : Int32) &&& (-2147483648 : Int32)) ||| (x1 &&& (2147483647 : Int32))) (0 : Int32)) + ((x3 &&& (2147483647 : Int32)) - (x1 &&& (2147483647 : Int32)))) T75.heap n0 Z75 q75_1) hZ (hw _ (List.mem_of_getElem? (i := 27) rfl)) (hw _ (List.mem_of_getElem? (i := 2) rfl)) (by decide) (by decide)) q77a q77c (g := (mkF m 89 #[.val (.int x0), .val (.int x1), .val (.int x2), .val (.int x3), .val (.ref b45), .val (.int (F_red (-2147483648 : Int32))), .val (.int (x1 &&& (2147483647 : Int32))), .val (.int (F_red (((-2147483648 : Int32) &&& (-2147483648 : Int32)) ||| (x1 &&& (2147483647 : Int32))))), .val (.int (0 : Int32)), .val (.int (F_red (S_red (((-2147483648 : Int32) &&& (-2147483648 : Int32)) ||| (x1 &&& (2147483647 : Int32))) (0 : Int32)))), .val (.int (x3 &&& (2147483647 : Int32))), .unset, .unset, .unset, .unset] [(.ref b45)])) rfl (by rw [hml]; rfl) (Steps.refl _) (argsL := []) (rest := []) (lenOf pd4 rfl) rfl (by show 2 * 0 + _ ≤ _; exact Nat.le_of_eq rfl) (hb hby at_89) (fun _ _ => ⟨rfl, rfl, (by decide : 3 + 0 ≤ _), (by decide : 7 + 0 ≤ _)⟩)
    dsimp only [Pt.U, Pt.locs, Pt.cells, Pt.slots] at X77 l77 y77 z77 st77 hQ77
    subst l77 y77 z77
    obtain ⟨rfl, N77q, eq77⟩ := hQ77
    have N77 := Fr.app N75 N77q
    refine own_tr st77 ?_
    show own_Got p e below _ T77 (mkF m 92 #[.val (.int x0), .val (.int x1), .val (.int x2), .val (.int x3), .val (.ref b45), .val (.int (F_red (-2147483648 : Int32))), .val (.int (x1 &&& (2147483647 : Int32))), .val (.int (F_red (((-2147483648 : Int32) &&& (-2147483648 : Int32)) ||| (x1 &&& (2147483647 : Int32))))), .val (.int (0 : Int32)), .val (.int (F_red (S_red (((-2147483648 : Int32) &&& (-2147483648 : Int32)) ||| (x1 &&& (2147483647 : Int32))) (0 : Int32)))), .val (.int (x3 &&& (2147483647 : Int32))), .unset, .unset, .unset, .unset] [(.int (F_red ((S_red (((-2147483648 : Int32) &&& (-2147483648 : Int32)) ||| (x1 &&& (2147483647 : Int32))) (0 : Int32)) + ((x3 &&& (2147483647 : Int32)) - (x1 &&& (2147483647 : Int32))))))])
    refine g_istore X77 hx hby #[.val (.int x0), .val (.int x1), .val (.int x2), .val (.int x3), .val (.ref b45), .val (.int (F_red (-2147483648 : Int32))), .val (.int (x1 &&& (2147483647 : Int32))), .val (.int (F_red (((-2147483648 : Int32) &&& (-2147483648 : Int32)) ||| (x1 &&& (2147483647 : Int32))))), .val (.int (0 : Int32)), .val (.int (F_red (S_red (((-2147483648 : Int32) &&& (-2147483648 : Int32)) ||| (x1 &&& (2147483647 : Int32))) (0 : Int32)))), .val (.int (x3 &&& (2147483647 : Int32))), .val (.int (F_red ((S_red (((-2147483648 : Int32) &&& (-2147483648 : Int32)) ||| (x1 &&& (2147483647 : Int32))) (0 : Int32)) + ((x3 &&& (2147483647 : Int32)) - (x1 &&& (2147483647 : Int32)))))), .unset, .unset, .unset] at_92 rfl (rfl : 92 + 2 = 94) ?_
    refine g_aload X77 hx hby at_94 rfl rfl (rfl : 94 + 2 = 96) ?_
    obtain ⟨cq78, kq78, q78a, q78b, q78c⟩ := isOf hZ eq77 q75_0
    obtain ⟨_, _, ⟨T78, L78, k78, n78⟩, -, X78, ⟨Lc78, hQ78, l78, y78, z78⟩, st78⟩ := X77.virtualBack hx (y := (⟨"com/example/leanbough/leanbough/LlrbTreeMap$Node", "leftCount", "()I"⟩ : MethodName)) (z := (⟨"com/example/leanbough/leanbough/LlrbTreeMap$Node", "leftCount", "()I"⟩ : MethodName)) hown (mvT hZ (hw _ (List.mem_of_getElem? (i := 45) rfl))) (mvT hZ (hw _ (List.mem_of_getElem? (i := 46) rfl))) (notFace_of_selects (args := #[]) (mvT hZ (hw _ (List.mem_of_getElem? (i := 48) rfl)))) (mvT hZ (hw _ (List.mem_of_getElem? (i := 48) rfl))) (mvT hZ (hw _ (List.mem_of_getElem? (i := 47) rfl))) (by decide) (backOf (W := 0) (rm_lct l Z aT hw [] b45 ((S_red (((-2147483648 : Int32) &&& (-2147483648 : Int32)) ||| (x1 &&& (2147483647 : Int32))) (0 : Int32)) + ((x3 &&& (2147483647 : Int32)) - (x1 &&& (2147483647 : Int32)))) T75.heap n0 Z75 q75_1) hZ (hw _ (List.mem_of_getElem? (i := 49) rfl)) (hw _ (List.mem_of_getElem? (i := 2) rfl)) (by decide) (by decide)) q78a q78c (g := (mkF m 96 #[.val (.int x0), .val (.int x1), .val (.int x2), .val (.int x3), .val (.ref b45), .val (.int (F_red (-2147483648 : Int32))), .val (.int (x1 &&& (2147483647 : Int32))), .val (.int (F_red (((-2147483648 : Int32) &&& (-2147483648 : Int32)) ||| (x1 &&& (2147483647 : Int32))))), .val (.int (0 : Int32)), .val (.int (F_red (S_red (((-2147483648 : Int32) &&& (-2147483648 : Int32)) ||| (x1 &&& (2147483647 : Int32))) (0 : Int32)))), .val (.int (x3 &&& (2147483647 : Int32))), .val (.int (F_red ((S_red (((-2147483648 : Int32) &&& (-2147483648 : Int32)) ||| (x1 &&& (2147483647 : Int32))) (0 : Int32)) + ((x3 &&& (2147483647 : Int32)) - (x1 &&& (2147483647 : Int32)))))), .unset, .unset, .unset] [(.ref b45)])) rfl (by rw [hml]; rfl) (Steps.refl _) (argsL := []) (rest := []) (lenOf pd6 rfl) rfl (by show 2 * 0 + _ ≤ _; exact Nat.le_of_eq rfl) (hb hby at_96) (fun _ _ => ⟨rfl, eq77, (by decide : 3 + 0 ≤ _), (by decide : 7 + 0 ≤ _)⟩)
    dsimp only [Pt.U, Pt.locs, Pt.cells, Pt.slots] at X78 l78 y78 z78 st78 hQ78
    subst l78 y78 z78
    obtain ⟨rfl, N78q, eq78⟩ := hQ78
    have N78 := Fr.app N77 N78q
    refine own_tr st78 ?_
    show own_Got p e below _ T78 (mkF m 99 #[.val (.int x0), .val (.int x1), .val (.int x2), .val (.int x3), .val (.ref b45), .val (.int (F_red (-2147483648 : Int32))), .val (.int (x1 &&& (2147483647 : Int32))), .val (.int (F_red (((-2147483648 : Int32) &&& (-2147483648 : Int32)) ||| (x1 &&& (2147483647 : Int32))))), .val (.int (0 : Int32)), .val (.int (F_red (S_red (((-2147483648 : Int32) &&& (-2147483648 : Int32)) ||| (x1 &&& (2147483647 : Int32))) (0 : Int32)))), .val (.int (x3 &&& (2147483647 : Int32))), .val (.int (F_red ((S_red (((-2147483648 : Int32) &&& (-2147483648 : Int32)) ||| (x1 &&& (2147483647 : Int32))) (0 : Int32)) + ((x3 &&& (2147483647 : Int32)) - (x1 &&& (2147483647 : Int32)))))), .unset, .unset, .unset] [(.int (F_lct ((S_red (((-2147483648 : Int32) &&& (-2147483648 : Int32)) ||| (x1 &&& (2147483647 : Int32))) (0 : Int32)) + ((x3 &&& (2147483647 : Int32)) - (x1 &&& (2147483647 : Int32))))))])
    refine g_istore X78 hx hby #[.val (.int x0), .val (.int x1), .val (.int x2), .val (.int x3), .val (.ref b45), .val (.int (F_red (-2147483648 : Int32))), .val (.int (x1 &&& (2147483647 : Int32))), .val (.int (F_red (((-2147483648 : Int32) &&& (-2147483648 : Int32)) ||| (x1 &&& (2147483647 : Int32))))), .val (.int (0 : Int32)), .val (.int (F_red (S_red (((-2147483648 : Int32) &&& (-2147483648 : Int32)) ||| (x1 &&& (2147483647 : Int32))) (0 : Int32)))), .val (.int (x3 &&& (2147483647 : Int32))), .val (.int (F_red ((S_red (((-2147483648 : Int32) &&& (-2147483648 : Int32)) ||| (x1 &&& (2147483647 : Int32))) (0 : Int32)) + ((x3 &&& (2147483647 : Int32)) - (x1 &&& (2147483647 : Int32)))))), .val (.int (F_lct ((S_red (((-2147483648 : Int32) &&& (-2147483648 : Int32)) ||| (x1 &&& (2147483647 : Int32))) (0 : Int32)) + ((x3 &&& (2147483647 : Int32)) - (x1 &&& (2147483647 : Int32)))))), .unset, .unset] at_99 rfl (rfl : 99 + 2 = 101) ?_
    refine g_iloadN X78 hx hby at_101 rfl (rfl : 101 + 1 = 102) ?_
    refine g_iconst X78 hx hby (2 : Int32) at_102 (by decide) (rfl : 102 + 1 = 103) ?_
    refine g_iand X78 hx hby at_103 (rfl : 103 + 1 = 104) ?_
    by_cases c79 : (x2 &&& (2 : Int32)) = (0 : Int32)
    · refine g_ifT X78 hx hby at_104 ((if0 _ _).trans (teq c79).1) (by decide) (pc' := 111) (by decide) ?_
      refine g_iconst X78 hx hby (0 : Int32) at_111 (by decide) (rfl : 111 + 1 = 112) ?_
      refine g_istore X78 hx hby #[.val (.int x0), .val (.int x1), .val (.int x2), .val (.int x3), .val (.ref b45), .val (.int (F_red (-2147483648 : Int32))), .val (.int (x1 &&& (2147483647 : Int32))), .val (.int (F_red (((-2147483648 : Int32) &&& (-2147483648 : Int32)) ||| (x1 &&& (2147483647 : Int32))))), .val (.int (0 : Int32)), .val (.int (F_red (S_red (((-2147483648 : Int32) &&& (-2147483648 : Int32)) ||| (x1 &&& (2147483647 : Int32))) (0 : Int32)))), .val (.int (x3 &&& (2147483647 : Int32))), .val (.int (F_red ((S_red (((-2147483648 : Int32) &&& (-2147483648 : Int32)) ||| (x1 &&& (2147483647 : Int32))) (0 : Int32)) + ((x3 &&& (2147483647 : Int32)) - (x1 &&& (2147483647 : Int32)))))), .val (.int (F_lct ((S_red (((-2147483648 : Int32) &&& (-2147483648 : Int32)) ||| (x1 &&& (2147483647 : Int32))) (0 : Int32)) + ((x3 &&& (2147483647 : Int32)) - (x1 &&& (2147483647 : Int32)))))), .val (.int (0 : Int32)), .unset] at_112 rfl (rfl : 112 + 2 = 114) ?_
      refine g_aload X78 hx hby at_114 rfl rfl (rfl : 114 + 2 = 116) ?_
      refine g_iload X78 hx hby at_116 rfl (rfl : 116 + 2 = 118) ?_
      have f81 : Exa Z T75.heap wc "[Ljava/lang/Integer;" := (Exa.keep f76 K75)
      obtain ⟨cq80, kq80, q80a, q80b, q80c⟩ := isOf hZ eq78 q75_0
      obtain ⟨_, _, ⟨T80, L80, k80, n80⟩, -, X80, ⟨Lc80, hQ80, l80, y80, z80⟩, st80⟩ := X78.virtualBack hx (y := (⟨"com/example/leanbough/leanbough/LlrbTreeMap$Node", "setRed", "(Z)V"⟩ : MethodName)) (z := (⟨"com/example/leanbough/leanbough/LlrbTreeMap$Node", "setRed", "(Z)V"⟩ : MethodName)) hown (mvT hZ (hw _ (List.mem_of_getElem? (i := 34) rfl))) (mvT hZ (hw _ (List.mem_of_getElem? (i := 35) rfl))) (notFace_of_selects (args := #[]) (mvT hZ (hw _ (List.mem_of_getElem? (i := 37) rfl)))) (mvT hZ (hw _ (List.mem_of_getElem? (i := 37) rfl))) (mvT hZ (hw _ (List.mem_of_getElem? (i := 36) rfl))) (by decide) (backOf (W := 0) (rm_srd l Z aT hw [] b45 (0 : Int32) ((S_red (((-2147483648 : Int32) &&& (-2147483648 : Int32)) ||| (x1 &&& (2147483647 : Int32))) (0 : Int32)) + ((x3 &&& (2147483647 : Int32)) - (x1 &&& (2147483647 : Int32)))) T75.heap n0 Z75 q75_0 q75_1 ge45) hZ (hw _ (List.mem_of_getElem? (i := 38) rfl)) (hw _ (List.mem_of_getElem? (i := 2) rfl)) (by decide) (by decide)) q80a q80c (g := (mkF m 118 #[.val (.int x0), .val (.int x1), .val (.int x2), .val (.int x3), .val (.ref b45), .val (.int (F_red (-2147483648 : Int32))), .val (.int (x1 &&& (2147483647 : Int32))), .val (.int (F_red (((-2147483648 : Int32) &&& (-2147483648 : Int32)) ||| (x1 &&& (2147483647 : Int32))))), .val (.int (0 : Int32)), .val (.int (F_red (S_red (((-2147483648 : Int32) &&& (-2147483648 : Int32)) ||| (x1 &&& (2147483647 : Int32))) (0 : Int32)))), .val (.int (x3 &&& (2147483647 : Int32))), .val (.int (F_red ((S_red (((-2147483648 : Int32) &&& (-2147483648 : Int32)) ||| (x1 &&& (2147483647 : Int32))) (0 : Int32)) + ((x3 &&& (2147483647 : Int32)) - (x1 &&& (2147483647 : Int32)))))), .val (.int (F_lct ((S_red (((-2147483648 : Int32) &&& (-2147483648 : Int32)) ||| (x1 &&& (2147483647 : Int32))) (0 : Int32)) + ((x3 &&& (2147483647 : Int32)) - (x1 &&& (2147483647 : Int32)))))), .val (.int (0 : Int32)), .unset] [(.int (0 : Int32)), (.ref b45)])) rfl (by rw [hml]; rfl) (Steps.refl _) (argsL := [(.int (0 : Int32))]) (rest := []) (lenOf pd5 rfl) rfl (by show 2 * 0 + _ ≤ _; exact Nat.le_of_eq rfl) (hb hby at_118) (fun _ _ => ⟨rfl, eq78, (by decide : 3 + 0 ≤ _), (by decide : 7 + 0 ≤ _)⟩)
      dsimp only [Pt.U, Pt.locs, Pt.cells, Pt.slots] at X80 l80 y80 z80 st80 hQ80
      subst l80 y80 z80
      obtain ⟨rfl, N80q, K80, q80_0, q80_1⟩ := hQ80
      have N80 := Fr.app N78 N80q
      have Z80 : n0 ≤ T80.heap.size := Nat.le_trans Z75 K80.1
      refine own_tr st80 ?_
      show own_Got p e below _ T80 (mkF m 121 #[.val (.int x0), .val (.int x1), .val (.int x2), .val (.int x3), .val (.ref b45), .val (.int (F_red (-2147483648 : Int32))), .val (.int (x1 &&& (2147483647 : Int32))), .val (.int (F_red (((-2147483648 : Int32) &&& (-2147483648 : Int32)) ||| (x1 &&& (2147483647 : Int32))))), .val (.int (0 : Int32)), .val (.int (F_red (S_red (((-2147483648 : Int32) &&& (-2147483648 : Int32)) ||| (x1 &&& (2147483647 : Int32))) (0 : Int32)))), .val (.int (x3 &&& (2147483647 : Int32))), .val (.int (F_red ((S_red (((-2147483648 : Int32) &&& (-2147483648 : Int32)) ||| (x1 &&& (2147483647 : Int32))) (0 : Int32)) + ((x3 &&& (2147483647 : Int32)) - (x1 &&& (2147483647 : Int32)))))), .val (.int (F_lct ((S_red (((-2147483648 : Int32) &&& (-2147483648 : Int32)) ||| (x1 &&& (2147483647 : Int32))) (0 : Int32)) + ((x3 &&& (2147483647 : Int32)) - (x1 &&& (2147483647 : Int32)))))), .val (.int (0 : Int32)), .unset] [])
      refine g_aload X80 hx hby at_121 rfl rfl (rfl : 121 + 2 = 123) ?_
      obtain ⟨cq82, kq82, q82a, q82b, q82c⟩ := isOf hZ rfl q80_0
      obtain ⟨_, _, ⟨T82, L82, k82, n82⟩, -, X82, ⟨Lc82, hQ82, l82, y82, z82⟩, st82⟩ := X80.virtualBack hx (y := (⟨"com/example/leanbough/leanbough/LlrbTreeMap$Node", "red", "()Z"⟩ : MethodName)) (z := (⟨"com/example/leanbough/leanbough/LlrbTreeMap$Node", "red", "()Z"⟩ : MethodName)) hown (mvT hZ (hw _ (List.mem_of_getElem? (i := 23) rfl))) (mvT hZ (hw _ (List.mem_of_getElem? (i := 24) rfl))) (notFace_of_selects (args := #[]) (mvT hZ (hw _ (List.mem_of_getElem? (i := 26) rfl)))) (mvT hZ (hw _ (List.mem_of_getElem? (i := 26) rfl))) (mvT hZ (hw _ (List.mem_of_getElem? (i := 25) rfl))) (by decide) (backOf (W := 0) (rm_red l Z aT hw [] b45 (S_red ((S_red (((-2147483648 : Int32) &&& (-2147483648 : Int32)) ||| (x1 &&& (2147483647 : Int32))) (0 : Int32)) + ((x3 &&& (2147483647 : Int32)) - (x1 &&& (2147483647 : Int32)))) (0 : Int32)) T80.heap n0 Z80 q80_1) hZ (hw _ (List.mem_of_getElem? (i := 27) rfl)) (hw _ (List.mem_of_getElem? (i := 2) rfl)) (by decide) (by decide)) q82a q82c (g := (mkF m 123 #[.val (.int x0), .val (.int x1), .val (.int x2), .val (.int x3), .val (.ref b45), .val (.int (F_red (-2147483648 : Int32))), .val (.int (x1 &&& (2147483647 : Int32))), .val (.int (F_red (((-2147483648 : Int32) &&& (-2147483648 : Int32)) ||| (x1 &&& (2147483647 : Int32))))), .val (.int (0 : Int32)), .val (.int (F_red (S_red (((-2147483648 : Int32) &&& (-2147483648 : Int32)) ||| (x1 &&& (2147483647 : Int32))) (0 : Int32)))), .val (.int (x3 &&& (2147483647 : Int32))), .val (.int (F_red ((S_red (((-2147483648 : Int32) &&& (-2147483648 : Int32)) ||| (x1 &&& (2147483647 : Int32))) (0 : Int32)) + ((x3 &&& (2147483647 : Int32)) - (x1 &&& (2147483647 : Int32)))))), .val (.int (F_lct ((S_red (((-2147483648 : Int32) &&& (-2147483648 : Int32)) ||| (x1 &&& (2147483647 : Int32))) (0 : Int32)) + ((x3 &&& (2147483647 : Int32)) - (x1 &&& (2147483647 : Int32)))))), .val (.int (0 : Int32)), .unset] [(.ref b45)])) rfl (by rw [hml]; rfl) (Steps.refl _) (argsL := []) (rest := []) (lenOf pd4 rfl) rfl (by show 2 * 0 + _ ≤ _; exact Nat.le_of_eq rfl) (hb hby at_123) (fun _ _ => ⟨rfl, rfl, (by decide : 3 + 0 ≤ _), (by decide : 7 + 0 ≤ _)⟩)
      dsimp only [Pt.U, Pt.locs, Pt.cells, Pt.slots] at X82 l82 y82 z82 st82 hQ82
      subst l82 y82 z82
      obtain ⟨rfl, N82q, eq82⟩ := hQ82
      have N82 := Fr.app N80 N82q
      refine own_tr st82 ?_
      show own_Got p e below _ T82 (mkF m 126 #[.val (.int x0), .val (.int x1), .val (.int x2), .val (.int x3), .val (.ref b45), .val (.int (F_red (-2147483648 : Int32))), .val (.int (x1 &&& (2147483647 : Int32))), .val (.int (F_red (((-2147483648 : Int32) &&& (-2147483648 : Int32)) ||| (x1 &&& (2147483647 : Int32))))), .val (.int (0 : Int32)), .val (.int (F_red (S_red (((-2147483648 : Int32) &&& (-2147483648 : Int32)) ||| (x1 &&& (2147483647 : Int32))) (0 : Int32)))), .val (.int (x3 &&& (2147483647 : Int32))), .val (.int (F_red ((S_red (((-2147483648 : Int32) &&& (-2147483648 : Int32)) ||| (x1 &&& (2147483647 : Int32))) (0 : Int32)) + ((x3 &&& (2147483647 : Int32)) - (x1 &&& (2147483647 : Int32)))))), .val (.int (F_lct ((S_red (((-2147483648 : Int32) &&& (-2147483648 : Int32)) ||| (x1 &&& (2147483647 : Int32))) (0 : Int32)) + ((x3 &&& (2147483647 : Int32)) - (x1 &&& (2147483647 : Int32)))))), .val (.int (0 : Int32)), .unset] [(.int (F_red (S_red ((S_red (((-2147483648 : Int32) &&& (-2147483648 : Int32)) ||| (x1 &&& (2147483647 : Int32))) (0 : Int32)) + ((x3 &&& (2147483647 : Int32)) - (x1 &&& (2147483647 : Int32)))) (0 : Int32))))])
      refine g_istore X82 hx hby #[.val (.int x0), .val (.int x1), .val (.int x2), .val (.int x3), .val (.ref b45), .val (.int (F_red (-2147483648 : Int32))), .val (.int (x1 &&& (2147483647 : Int32))), .val (.int (F_red (((-2147483648 : Int32) &&& (-2147483648 : Int32)) ||| (x1 &&& (2147483647 : Int32))))), .val (.int (0 : Int32)), .val (.int (F_red (S_red (((-2147483648 : Int32) &&& (-2147483648 : Int32)) ||| (x1 &&& (2147483647 : Int32))) (0 : Int32)))), .val (.int (x3 &&& (2147483647 : Int32))), .val (.int (F_red ((S_red (((-2147483648 : Int32) &&& (-2147483648 : Int32)) ||| (x1 &&& (2147483647 : Int32))) (0 : Int32)) + ((x3 &&& (2147483647 : Int32)) - (x1 &&& (2147483647 : Int32)))))), .val (.int (F_lct ((S_red (((-2147483648 : Int32) &&& (-2147483648 : Int32)) ||| (x1 &&& (2147483647 : Int32))) (0 : Int32)) + ((x3 &&& (2147483647 : Int32)) - (x1 &&& (2147483647 : Int32)))))), .val (.int (0 : Int32)), .val (.int (F_red (S_red ((S_red (((-2147483648 : Int32) &&& (-2147483648 : Int32)) ||| (x1 &&& (2147483647 : Int32))) (0 : Int32)) + ((x3 &&& (2147483647 : Int32)) - (x1 &&& (2147483647 : Int32)))) (0 : Int32))))] at_126 rfl (rfl : 126 + 2 = 128) ?_
      refine g_iload X82 hx hby at_128 rfl (rfl : 128 + 2 = 130) ?_
      by_cases c83 : (F_red (-2147483648 : Int32)) = (0 : Int32)
      · refine g_ifT X82 hx hby at_130 ((if0 _ _).trans (teq c83).1) (by decide) (pc' := 170) (by decide) ?_
        refine g_iconst X82 hx hby (0 : Int32) at_170 (by decide) (rfl : 170 + 1 = 171) ?_
        refine own_retN X82 hx hby hlk (t := .boolean) hrt (by simp) at_171 (by decide) (by decide) ?_
        show Q_law Z x0 x1 x2 x3 wc h0 n0 _ T82.heap _
        exact ⟨(congrArg (fun z => some (Value.int z)) (by rw [F_law, if_pos c71, if_pos c79, if_pos c83] <;> rfl)), N82⟩
      · refine g_ifF X82 hx hby at_130 ((if0 _ _).trans (feq c83).1) (rfl : 130 + 3 = 133) ?_
        refine g_iload X82 hx hby at_133 rfl (rfl : 133 + 2 = 135) ?_
        by_cases c84 : (F_red (((-2147483648 : Int32) &&& (-2147483648 : Int32)) ||| (x1 &&& (2147483647 : Int32)))) = (0 : Int32)
        · refine g_ifT X82 hx hby at_135 ((if0 _ _).trans (teq c84).1) (by decide) (pc' := 170) (by decide) ?_
          refine g_iconst X82 hx hby (0 : Int32) at_170 (by decide) (rfl : 170 + 1 = 171) ?_
          refine own_retN X82 hx hby hlk (t := .boolean) hrt (by simp) at_171 (by decide) (by decide) ?_
          show Q_law Z x0 x1 x2 x3 wc h0 n0 _ T82.heap _
          exact ⟨(congrArg (fun z => some (Value.int z)) (by rw [F_law, if_pos c71, if_pos c79, if_neg c83, if_pos c84] <;> rfl)), N82⟩
        · refine g_ifF X82 hx hby at_135 ((if0 _ _).trans (feq c84).1) (rfl : 135 + 3 = 138) ?_
          refine g_iload X82 hx hby at_138 rfl (rfl : 138 + 2 = 140) ?_
          refine g_iload X82 hx hby at_140 rfl (rfl : 140 + 2 = 142) ?_
          by_cases c85 : (F_red (S_red (((-2147483648 : Int32) &&& (-2147483648 : Int32)) ||| (x1 &&& (2147483647 : Int32))) (0 : Int32))) = (0 : Int32)
          · refine g_icF X82 hx hby at_142 (teq c85).2 (rfl : 142 + 3 = 145) ?_
            refine g_iload X82 hx hby at_145 rfl (rfl : 145 + 2 = 147) ?_
            refine g_iload X82 hx hby at_147 rfl (rfl : 147 + 2 = 149) ?_
            by_cases c86 : (F_red ((S_red (((-2147483648 : Int32) &&& (-2147483648 : Int32)) ||| (x1 &&& (2147483647 : Int32))) (0 : Int32)) + ((x3 &&& (2147483647 : Int32)) - (x1 &&& (2147483647 : Int32))))) = (0 : Int32)
            · refine g_icF X82 hx hby at_149 (teq c86).2 (rfl : 149 + 3 = 152) ?_
              refine g_iload X82 hx hby at_152 rfl (rfl : 152 + 2 = 154) ?_
              refine g_iload X82 hx hby at_154 rfl (rfl : 154 + 2 = 156) ?_
              by_cases c87 : (F_lct ((S_red (((-2147483648 : Int32) &&& (-2147483648 : Int32)) ||| (x1 &&& (2147483647 : Int32))) (0 : Int32)) + ((x3 &&& (2147483647 : Int32)) - (x1 &&& (2147483647 : Int32))))) = (x3 &&& (2147483647 : Int32))
              · refine g_icF X82 hx hby at_156 (teq c87).2 (rfl : 156 + 3 = 159) ?_
                refine g_iload X82 hx hby at_159 rfl (rfl : 159 + 2 = 161) ?_
                refine g_iload X82 hx hby at_161 rfl (rfl : 161 + 2 = 163) ?_
                by_cases c88 : (F_red (S_red ((S_red (((-2147483648 : Int32) &&& (-2147483648 : Int32)) ||| (x1 &&& (2147483647 : Int32))) (0 : Int32)) + ((x3 &&& (2147483647 : Int32)) - (x1 &&& (2147483647 : Int32)))) (0 : Int32))) = (0 : Int32)
                · refine g_icF X82 hx hby at_163 (teq c88).2 (rfl : 163 + 3 = 166) ?_
                  refine g_iconst X82 hx hby (1 : Int32) at_166 (by decide) (rfl : 166 + 1 = 167) ?_
                  refine g_goto X82 hx hby at_167 (by decide) (pc' := 171) (by decide) ?_
                  refine own_retN X82 hx hby hlk (t := .boolean) hrt (by simp) at_171 (by decide) (by decide) ?_
                  show Q_law Z x0 x1 x2 x3 wc h0 n0 _ T82.heap _
                  exact ⟨(congrArg (fun z => some (Value.int z)) (by rw [F_law, if_pos c71, if_pos c79, if_neg c83, if_neg c84, if_pos c85, if_pos c86, if_pos c87, if_pos c88] <;> rfl)), N82⟩
                · refine g_icT X82 hx hby at_163 (feq c88).2 (by decide) (pc' := 170) (by decide) ?_
                  refine g_iconst X82 hx hby (0 : Int32) at_170 (by decide) (rfl : 170 + 1 = 171) ?_
                  refine own_retN X82 hx hby hlk (t := .boolean) hrt (by simp) at_171 (by decide) (by decide) ?_
                  show Q_law Z x0 x1 x2 x3 wc h0 n0 _ T82.heap _
                  exact ⟨(congrArg (fun z => some (Value.int z)) (by rw [F_law, if_pos c71, if_pos c79, if_neg c83, if_neg c84, if_pos c85, if_pos c86, if_pos c87, if_neg c88] <;> rfl)), N82⟩
              · refine g_icT X82 hx hby at_156 (feq c87).2 (by decide) (pc' := 170) (by decide) ?_
                refine g_iconst X82 hx hby (0 : Int32) at_170 (by decide) (rfl : 170 + 1 = 171) ?_
                refine own_retN X82 hx hby hlk (t := .boolean) hrt (by simp) at_171 (by decide) (by decide) ?_
                show Q_law Z x0 x1 x2 x3 wc h0 n0 _ T82.heap _
                exact ⟨(congrArg (fun z => some (Value.int z)) (by rw [F_law, if_pos c71, if_pos c79, if_neg c83, if_neg c84, if_pos c85, if_pos c86, if_neg c87] <;> rfl)), N82⟩
            · refine g_icT X82 hx hby at_149 (feq c86).2 (by decide) (pc' := 170) (by decide) ?_
              refine g_iconst X82 hx hby (0 : Int32) at_170 (by decide) (rfl : 170 + 1 = 171) ?_
              refine own_retN X82 hx hby hlk (t := .boolean) hrt (by simp) at_171 (by decide) (by decide) ?_
              show Q_law Z x0 x1 x2 x3 wc h0 n0 _ T82.heap _
              exact ⟨(congrArg (fun z => some (Value.int z)) (by rw [F_law, if_pos c71, if_pos c79, if_neg c83, if_neg c84, if_pos c85, if_neg c86] <;> rfl)), N82⟩
          · refine g_icT X82 hx hby at_142 (feq c85).2 (by decide) (pc' := 170) (by decide) ?_
            refine g_iconst X82 hx hby (0 : Int32) at_170 (by decide) (rfl : 170 + 1 = 171) ?_
            refine own_retN X82 hx hby hlk (t := .boolean) hrt (by simp) at_171 (by decide) (by decide) ?_
            show Q_law Z x0 x1 x2 x3 wc h0 n0 _ T82.heap _
            exact ⟨(congrArg (fun z => some (Value.int z)) (by rw [F_law, if_pos c71, if_pos c79, if_neg c83, if_neg c84, if_neg c85] <;> rfl)), N82⟩
    · refine g_ifF X78 hx hby at_104 ((if0 _ _).trans (feq c79).1) (rfl : 104 + 3 = 107) ?_
      refine g_iconst X78 hx hby (1 : Int32) at_107 (by decide) (rfl : 107 + 1 = 108) ?_
      refine g_goto X78 hx hby at_108 (by decide) (pc' := 112) (by decide) ?_
      refine g_istore X78 hx hby #[.val (.int x0), .val (.int x1), .val (.int x2), .val (.int x3), .val (.ref b45), .val (.int (F_red (-2147483648 : Int32))), .val (.int (x1 &&& (2147483647 : Int32))), .val (.int (F_red (((-2147483648 : Int32) &&& (-2147483648 : Int32)) ||| (x1 &&& (2147483647 : Int32))))), .val (.int (0 : Int32)), .val (.int (F_red (S_red (((-2147483648 : Int32) &&& (-2147483648 : Int32)) ||| (x1 &&& (2147483647 : Int32))) (0 : Int32)))), .val (.int (x3 &&& (2147483647 : Int32))), .val (.int (F_red ((S_red (((-2147483648 : Int32) &&& (-2147483648 : Int32)) ||| (x1 &&& (2147483647 : Int32))) (0 : Int32)) + ((x3 &&& (2147483647 : Int32)) - (x1 &&& (2147483647 : Int32)))))), .val (.int (F_lct ((S_red (((-2147483648 : Int32) &&& (-2147483648 : Int32)) ||| (x1 &&& (2147483647 : Int32))) (0 : Int32)) + ((x3 &&& (2147483647 : Int32)) - (x1 &&& (2147483647 : Int32)))))), .val (.int (1 : Int32)), .unset] at_112 rfl (rfl : 112 + 2 = 114) ?_
      refine g_aload X78 hx hby at_114 rfl rfl (rfl : 114 + 2 = 116) ?_
      refine g_iload X78 hx hby at_116 rfl (rfl : 116 + 2 = 118) ?_
      have f90 : Exa Z T75.heap wc "[Ljava/lang/Integer;" := (Exa.keep f76 K75)
      obtain ⟨cq89, kq89, q89a, q89b, q89c⟩ := isOf hZ eq78 q75_0
      obtain ⟨_, _, ⟨T89, L89, k89, n89⟩, -, X89, ⟨Lc89, hQ89, l89, y89, z89⟩, st89⟩ := X78.virtualBack hx (y := (⟨"com/example/leanbough/leanbough/LlrbTreeMap$Node", "setRed", "(Z)V"⟩ : MethodName)) (z := (⟨"com/example/leanbough/leanbough/LlrbTreeMap$Node", "setRed", "(Z)V"⟩ : MethodName)) hown (mvT hZ (hw _ (List.mem_of_getElem? (i := 34) rfl))) (mvT hZ (hw _ (List.mem_of_getElem? (i := 35) rfl))) (notFace_of_selects (args := #[]) (mvT hZ (hw _ (List.mem_of_getElem? (i := 37) rfl)))) (mvT hZ (hw _ (List.mem_of_getElem? (i := 37) rfl))) (mvT hZ (hw _ (List.mem_of_getElem? (i := 36) rfl))) (by decide) (backOf (W := 0) (rm_srd l Z aT hw [] b45 (1 : Int32) ((S_red (((-2147483648 : Int32) &&& (-2147483648 : Int32)) ||| (x1 &&& (2147483647 : Int32))) (0 : Int32)) + ((x3 &&& (2147483647 : Int32)) - (x1 &&& (2147483647 : Int32)))) T75.heap n0 Z75 q75_0 q75_1 ge45) hZ (hw _ (List.mem_of_getElem? (i := 38) rfl)) (hw _ (List.mem_of_getElem? (i := 2) rfl)) (by decide) (by decide)) q89a q89c (g := (mkF m 118 #[.val (.int x0), .val (.int x1), .val (.int x2), .val (.int x3), .val (.ref b45), .val (.int (F_red (-2147483648 : Int32))), .val (.int (x1 &&& (2147483647 : Int32))), .val (.int (F_red (((-2147483648 : Int32) &&& (-2147483648 : Int32)) ||| (x1 &&& (2147483647 : Int32))))), .val (.int (0 : Int32)), .val (.int (F_red (S_red (((-2147483648 : Int32) &&& (-2147483648 : Int32)) ||| (x1 &&& (2147483647 : Int32))) (0 : Int32)))), .val (.int (x3 &&& (2147483647 : Int32))), .val (.int (F_red ((S_red (((-2147483648 : Int32) &&& (-2147483648 : Int32)) ||| (x1 &&& (2147483647 : Int32))) (0 : Int32)) + ((x3 &&& (2147483647 : Int32)) - (x1 &&& (2147483647 : Int32)))))), .val (.int (F_lct ((S_red (((-2147483648 : Int32) &&& (-2147483648 : Int32)) ||| (x1 &&& (2147483647 : Int32))) (0 : Int32)) + ((x3 &&& (2147483647 : Int32)) - (x1 &&& (2147483647 : Int32)))))), .val (.int (1 : Int32)), .unset] [(.int (1 : Int32)), (.ref b45)])) rfl (by rw [hml]; rfl) (Steps.refl _) (argsL := [(.int (1 : Int32))]) (rest := []) (lenOf pd5 rfl) rfl (by show 2 * 0 + _ ≤ _; exact Nat.le_of_eq rfl) (hb hby at_118) (fun _ _ => ⟨rfl, eq78, (by decide : 3 + 0 ≤ _), (by decide : 7 + 0 ≤ _)⟩)
      dsimp only [Pt.U, Pt.locs, Pt.cells, Pt.slots] at X89 l89 y89 z89 st89 hQ89
      subst l89 y89 z89
      obtain ⟨rfl, N89q, K89, q89_0, q89_1⟩ := hQ89
      have N89 := Fr.app N78 N89q
      have Z89 : n0 ≤ T89.heap.size := Nat.le_trans Z75 K89.1
      refine own_tr st89 ?_
      show own_Got p e below _ T89 (mkF m 121 #[.val (.int x0), .val (.int x1), .val (.int x2), .val (.int x3), .val (.ref b45), .val (.int (F_red (-2147483648 : Int32))), .val (.int (x1 &&& (2147483647 : Int32))), .val (.int (F_red (((-2147483648 : Int32) &&& (-2147483648 : Int32)) ||| (x1 &&& (2147483647 : Int32))))), .val (.int (0 : Int32)), .val (.int (F_red (S_red (((-2147483648 : Int32) &&& (-2147483648 : Int32)) ||| (x1 &&& (2147483647 : Int32))) (0 : Int32)))), .val (.int (x3 &&& (2147483647 : Int32))), .val (.int (F_red ((S_red (((-2147483648 : Int32) &&& (-2147483648 : Int32)) ||| (x1 &&& (2147483647 : Int32))) (0 : Int32)) + ((x3 &&& (2147483647 : Int32)) - (x1 &&& (2147483647 : Int32)))))), .val (.int (F_lct ((S_red (((-2147483648 : Int32) &&& (-2147483648 : Int32)) ||| (x1 &&& (2147483647 : Int32))) (0 : Int32)) + ((x3 &&& (2147483647 : Int32)) - (x1 &&& (2147483647 : Int32)))))), .val (.int (1 : Int32)), .unset] [])
      refine g_aload X89 hx hby at_121 rfl rfl (rfl : 121 + 2 = 123) ?_
      obtain ⟨cq91, kq91, q91a, q91b, q91c⟩ := isOf hZ rfl q89_0
      obtain ⟨_, _, ⟨T91, L91, k91, n91⟩, -, X91, ⟨Lc91, hQ91, l91, y91, z91⟩, st91⟩ := X89.virtualBack hx (y := (⟨"com/example/leanbough/leanbough/LlrbTreeMap$Node", "red", "()Z"⟩ : MethodName)) (z := (⟨"com/example/leanbough/leanbough/LlrbTreeMap$Node", "red", "()Z"⟩ : MethodName)) hown (mvT hZ (hw _ (List.mem_of_getElem? (i := 23) rfl))) (mvT hZ (hw _ (List.mem_of_getElem? (i := 24) rfl))) (notFace_of_selects (args := #[]) (mvT hZ (hw _ (List.mem_of_getElem? (i := 26) rfl)))) (mvT hZ (hw _ (List.mem_of_getElem? (i := 26) rfl))) (mvT hZ (hw _ (List.mem_of_getElem? (i := 25) rfl))) (by decide) (backOf (W := 0) (rm_red l Z aT hw [] b45 (S_red ((S_red (((-2147483648 : Int32) &&& (-2147483648 : Int32)) ||| (x1 &&& (2147483647 : Int32))) (0 : Int32)) + ((x3 &&& (2147483647 : Int32)) - (x1 &&& (2147483647 : Int32)))) (1 : Int32)) T89.heap n0 Z89 q89_1) hZ (hw _ (List.mem_of_getElem? (i := 27) rfl)) (hw _ (List.mem_of_getElem? (i := 2) rfl)) (by decide) (by decide)) q91a q91c (g := (mkF m 123 #[.val (.int x0), .val (.int x1), .val (.int x2), .val (.int x3), .val (.ref b45), .val (.int (F_red (-2147483648 : Int32))), .val (.int (x1 &&& (2147483647 : Int32))), .val (.int (F_red (((-2147483648 : Int32) &&& (-2147483648 : Int32)) ||| (x1 &&& (2147483647 : Int32))))), .val (.int (0 : Int32)), .val (.int (F_red (S_red (((-2147483648 : Int32) &&& (-2147483648 : Int32)) ||| (x1 &&& (2147483647 : Int32))) (0 : Int32)))), .val (.int (x3 &&& (2147483647 : Int32))), .val (.int (F_red ((S_red (((-2147483648 : Int32) &&& (-2147483648 : Int32)) ||| (x1 &&& (2147483647 : Int32))) (0 : Int32)) + ((x3 &&& (2147483647 : Int32)) - (x1 &&& (2147483647 : Int32)))))), .val (.int (F_lct ((S_red (((-2147483648 : Int32) &&& (-2147483648 : Int32)) ||| (x1 &&& (2147483647 : Int32))) (0 : Int32)) + ((x3 &&& (2147483647 : Int32)) - (x1 &&& (2147483647 : Int32)))))), .val (.int (1 : Int32)), .unset] [(.ref b45)])) rfl (by rw [hml]; rfl) (Steps.refl _) (argsL := []) (rest := []) (lenOf pd4 rfl) rfl (by show 2 * 0 + _ ≤ _; exact Nat.le_of_eq rfl) (hb hby at_123) (fun _ _ => ⟨rfl, rfl, (by decide : 3 + 0 ≤ _), (by decide : 7 + 0 ≤ _)⟩)
      dsimp only [Pt.U, Pt.locs, Pt.cells, Pt.slots] at X91 l91 y91 z91 st91 hQ91
      subst l91 y91 z91
      obtain ⟨rfl, N91q, eq91⟩ := hQ91
      have N91 := Fr.app N89 N91q
      refine own_tr st91 ?_
      show own_Got p e below _ T91 (mkF m 126 #[.val (.int x0), .val (.int x1), .val (.int x2), .val (.int x3), .val (.ref b45), .val (.int (F_red (-2147483648 : Int32))), .val (.int (x1 &&& (2147483647 : Int32))), .val (.int (F_red (((-2147483648 : Int32) &&& (-2147483648 : Int32)) ||| (x1 &&& (2147483647 : Int32))))), .val (.int (0 : Int32)), .val (.int (F_red (S_red (((-2147483648 : Int32) &&& (-2147483648 : Int32)) ||| (x1 &&& (2147483647 : Int32))) (0 : Int32)))), .val (.int (x3 &&& (2147483647 : Int32))), .val (.int (F_red ((S_red (((-2147483648 : Int32) &&& (-2147483648 : Int32)) ||| (x1 &&& (2147483647 : Int32))) (0 : Int32)) + ((x3 &&& (2147483647 : Int32)) - (x1 &&& (2147483647 : Int32)))))), .val (.int (F_lct ((S_red (((-2147483648 : Int32) &&& (-2147483648 : Int32)) ||| (x1 &&& (2147483647 : Int32))) (0 : Int32)) + ((x3 &&& (2147483647 : Int32)) - (x1 &&& (2147483647 : Int32)))))), .val (.int (1 : Int32)), .unset] [(.int (F_red (S_red ((S_red (((-2147483648 : Int32) &&& (-2147483648 : Int32)) ||| (x1 &&& (2147483647 : Int32))) (0 : Int32)) + ((x3 &&& (2147483647 : Int32)) - (x1 &&& (2147483647 : Int32)))) (1 : Int32))))])
      refine g_istore X91 hx hby #[.val (.int x0), .val (.int x1), .val (.int x2), .val (.int x3), .val (.ref b45), .val (.int (F_red (-2147483648 : Int32))), .val (.int (x1 &&& (2147483647 : Int32))), .val (.int (F_red (((-2147483648 : Int32) &&& (-2147483648 : Int32)) ||| (x1 &&& (2147483647 : Int32))))), .val (.int (0 : Int32)), .val (.int (F_red (S_red (((-2147483648 : Int32) &&& (-2147483648 : Int32)) ||| (x1 &&& (2147483647 : Int32))) (0 : Int32)))), .val (.int (x3 &&& (2147483647 : Int32))), .val (.int (F_red ((S_red (((-2147483648 : Int32) &&& (-2147483648 : Int32)) ||| (x1 &&& (2147483647 : Int32))) (0 : Int32)) + ((x3 &&& (2147483647 : Int32)) - (x1 &&& (2147483647 : Int32)))))), .val (.int (F_lct ((S_red (((-2147483648 : Int32) &&& (-2147483648 : Int32)) ||| (x1 &&& (2147483647 : Int32))) (0 : Int32)) + ((x3 &&& (2147483647 : Int32)) - (x1 &&& (2147483647 : Int32)))))), .val (.int (1 : Int32)), .val (.int (F_red (S_red ((S_red (((-2147483648 : Int32) &&& (-2147483648 : Int32)) ||| (x1 &&& (2147483647 : Int32))) (0 : Int32)) + ((x3 &&& (2147483647 : Int32)) - (x1 &&& (2147483647 : Int32)))) (1 : Int32))))] at_126 rfl (rfl : 126 + 2 = 128) ?_
      refine g_iload X91 hx hby at_128 rfl (rfl : 128 + 2 = 130) ?_
      by_cases c92 : (F_red (-2147483648 : Int32)) = (0 : Int32)
      · refine g_ifT X91 hx hby at_130 ((if0 _ _).trans (teq c92).1) (by decide) (pc' := 170) (by decide) ?_
        refine g_iconst X91 hx hby (0 : Int32) at_170 (by decide) (rfl : 170 + 1 = 171) ?_
        refine own_retN X91 hx hby hlk (t := .boolean) hrt (by simp) at_171 (by decide) (by decide) ?_
        show Q_law Z x0 x1 x2 x3 wc h0 n0 _ T91.heap _
        exact ⟨(congrArg (fun z => some (Value.int z)) (by rw [F_law, if_pos c71, if_neg c79, if_pos c92] <;> rfl)), N91⟩
      · refine g_ifF X91 hx hby at_130 ((if0 _ _).trans (feq c92).1) (rfl : 130 + 3 = 133) ?_
        refine g_iload X91 hx hby at_133 rfl (rfl : 133 + 2 = 135) ?_
        by_cases c93 : (F_red (((-2147483648 : Int32) &&& (-2147483648 : Int32)) ||| (x1 &&& (2147483647 : Int32)))) = (0 : Int32)
        · refine g_ifT X91 hx hby at_135 ((if0 _ _).trans (teq c93).1) (by decide) (pc' := 170) (by decide) ?_
          refine g_iconst X91 hx hby (0 : Int32) at_170 (by decide) (rfl : 170 + 1 = 171) ?_
          refine own_retN X91 hx hby hlk (t := .boolean) hrt (by simp) at_171 (by decide) (by decide) ?_
          show Q_law Z x0 x1 x2 x3 wc h0 n0 _ T91.heap _
          exact ⟨(congrArg (fun z => some (Value.int z)) (by rw [F_law, if_pos c71, if_neg c79, if_neg c92, if_pos c93] <;> rfl)), N91⟩
        · refine g_ifF X91 hx hby at_135 ((if0 _ _).trans (feq c93).1) (rfl : 135 + 3 = 138) ?_
          refine g_iload X91 hx hby at_138 rfl (rfl : 138 + 2 = 140) ?_
          refine g_iload X91 hx hby at_140 rfl (rfl : 140 + 2 = 142) ?_
          by_cases c94 : (F_red (S_red (((-2147483648 : Int32) &&& (-2147483648 : Int32)) ||| (x1 &&& (2147483647 : Int32))) (0 : Int32))) = (0 : Int32)
          · refine g_icF X91 hx hby at_142 (teq c94).2 (rfl : 142 + 3 = 145) ?_
            refine g_iload X91 hx hby at_145 rfl (rfl : 145 + 2 = 147) ?_
            refine g_iload X91 hx hby at_147 rfl (rfl : 147 + 2 = 149) ?_
            by_cases c95 : (F_red ((S_red (((-2147483648 : Int32) &&& (-2147483648 : Int32)) ||| (x1 &&& (2147483647 : Int32))) (0 : Int32)) + ((x3 &&& (2147483647 : Int32)) - (x1 &&& (2147483647 : Int32))))) = (0 : Int32)
            · refine g_icF X91 hx hby at_149 (teq c95).2 (rfl : 149 + 3 = 152) ?_
              refine g_iload X91 hx hby at_152 rfl (rfl : 152 + 2 = 154) ?_
              refine g_iload X91 hx hby at_154 rfl (rfl : 154 + 2 = 156) ?_
              by_cases c96 : (F_lct ((S_red (((-2147483648 : Int32) &&& (-2147483648 : Int32)) ||| (x1 &&& (2147483647 : Int32))) (0 : Int32)) + ((x3 &&& (2147483647 : Int32)) - (x1 &&& (2147483647 : Int32))))) = (x3 &&& (2147483647 : Int32))
              · refine g_icF X91 hx hby at_156 (teq c96).2 (rfl : 156 + 3 = 159) ?_
                refine g_iload X91 hx hby at_159 rfl (rfl : 159 + 2 = 161) ?_
                refine g_iload X91 hx hby at_161 rfl (rfl : 161 + 2 = 163) ?_
                by_cases c97 : (F_red (S_red ((S_red (((-2147483648 : Int32) &&& (-2147483648 : Int32)) ||| (x1 &&& (2147483647 : Int32))) (0 : Int32)) + ((x3 &&& (2147483647 : Int32)) - (x1 &&& (2147483647 : Int32)))) (1 : Int32))) = (1 : Int32)
                · refine g_icF X91 hx hby at_163 (teq c97).2 (rfl : 163 + 3 = 166) ?_
                  refine g_iconst X91 hx hby (1 : Int32) at_166 (by decide) (rfl : 166 + 1 = 167) ?_
                  refine g_goto X91 hx hby at_167 (by decide) (pc' := 171) (by decide) ?_
                  refine own_retN X91 hx hby hlk (t := .boolean) hrt (by simp) at_171 (by decide) (by decide) ?_
                  show Q_law Z x0 x1 x2 x3 wc h0 n0 _ T91.heap _
                  exact ⟨(congrArg (fun z => some (Value.int z)) (by rw [F_law, if_pos c71, if_neg c79, if_neg c92, if_neg c93, if_pos c94, if_pos c95, if_pos c96, if_pos c97] <;> rfl)), N91⟩
                · refine g_icT X91 hx hby at_163 (feq c97).2 (by decide) (pc' := 170) (by decide) ?_
                  refine g_iconst X91 hx hby (0 : Int32) at_170 (by decide) (rfl : 170 + 1 = 171) ?_
                  refine own_retN X91 hx hby hlk (t := .boolean) hrt (by simp) at_171 (by decide) (by decide) ?_
                  show Q_law Z x0 x1 x2 x3 wc h0 n0 _ T91.heap _
                  exact ⟨(congrArg (fun z => some (Value.int z)) (by rw [F_law, if_pos c71, if_neg c79, if_neg c92, if_neg c93, if_pos c94, if_pos c95, if_pos c96, if_neg c97] <;> rfl)), N91⟩
              · refine g_icT X91 hx hby at_156 (feq c96).2 (by decide) (pc' := 170) (by decide) ?_
                refine g_iconst X91 hx hby (0 : Int32) at_170 (by decide) (rfl : 170 + 1 = 171) ?_
                refine own_retN X91 hx hby hlk (t := .boolean) hrt (by simp) at_171 (by decide) (by decide) ?_
                show Q_law Z x0 x1 x2 x3 wc h0 n0 _ T91.heap _
                exact ⟨(congrArg (fun z => some (Value.int z)) (by rw [F_law, if_pos c71, if_neg c79, if_neg c92, if_neg c93, if_pos c94, if_pos c95, if_neg c96] <;> rfl)), N91⟩
            · refine g_icT X91 hx hby at_149 (feq c95).2 (by decide) (pc' := 170) (by decide) ?_
              refine g_iconst X91 hx hby (0 : Int32) at_170 (by decide) (rfl : 170 + 1 = 171) ?_
              refine own_retN X91 hx hby hlk (t := .boolean) hrt (by simp) at_171 (by decide) (by decide) ?_
              show Q_law Z x0 x1 x2 x3 wc h0 n0 _ T91.heap _
              exact ⟨(congrArg (fun z => some (Value.int z)) (by rw [F_law, if_pos c71, if_neg c79, if_neg c92, if_neg c93, if_pos c94, if_neg c95] <;> rfl)), N91⟩
          · refine g_icT X91 hx hby at_142 (feq c94).2 (by decide) (pc' := 170) (by decide) ?_
            refine g_iconst X91 hx hby (0 : Int32) at_170 (by decide) (rfl : 170 + 1 = 171) ?_
            refine own_retN X91 hx hby hlk (t := .boolean) hrt (by simp) at_171 (by decide) (by decide) ?_
            show Q_law Z x0 x1 x2 x3 wc h0 n0 _ T91.heap _
            exact ⟨(congrArg (fun z => some (Value.int z)) (by rw [F_law, if_pos c71, if_neg c79, if_neg c92, if_neg c93, if_neg c94] <;> rfl)), N91⟩
  · refine g_ifF X70 hx hby at_47 ((if0 _ _).trans (feq c71).1) (rfl : 47 + 3 = 50) ?_
    refine g_iconst X70 hx hby (1 : Int32) at_50 (by decide) (rfl : 50 + 1 = 51) ?_
    refine g_goto X70 hx hby at_51 (by decide) (pc' := 55) (by decide) ?_
    refine g_istore X70 hx hby #[.val (.int x0), .val (.int x1), .val (.int x2), .val (.int x3), .val (.ref b45), .val (.int (F_red (-2147483648 : Int32))), .val (.int (x1 &&& (2147483647 : Int32))), .val (.int (F_red (((-2147483648 : Int32) &&& (-2147483648 : Int32)) ||| (x1 &&& (2147483647 : Int32))))), .val (.int (1 : Int32)), .unset, .unset, .unset, .unset, .unset, .unset] at_55 rfl (rfl : 55 + 2 = 57) ?_
    refine g_aload X70 hx hby at_57 rfl rfl (rfl : 57 + 2 = 59) ?_
    refine g_iload X70 hx hby at_59 rfl (rfl : 59 + 2 = 61) ?_
    have f99 : Exa Z T68.heap wc "[Ljava/lang/Integer;" := (Exa.keep f69 K68)
    obtain ⟨cq98, kq98, q98a, q98b, q98c⟩ := isOf hZ eq70 q68_0
    obtain ⟨_, _, ⟨T98, L98, k98, n98⟩, -, X98, ⟨Lc98, hQ98, l98, y98, z98⟩, st98⟩ := X70.virtualBack hx (y := (⟨"com/example/leanbough/leanbough/LlrbTreeMap$Node", "setRed", "(Z)V"⟩ : MethodName)) (z := (⟨"com/example/leanbough/leanbough/LlrbTreeMap$Node", "setRed", "(Z)V"⟩ : MethodName)) hown (mvT hZ (hw _ (List.mem_of_getElem? (i := 34) rfl))) (mvT hZ (hw _ (List.mem_of_getElem? (i := 35) rfl))) (notFace_of_selects (args := #[]) (mvT hZ (hw _ (List.mem_of_getElem? (i := 37) rfl)))) (mvT hZ (hw _ (List.mem_of_getElem? (i := 37) rfl))) (mvT hZ (hw _ (List.mem_of_getElem? (i := 36) rfl))) (by decide) (backOf (W := 0) (rm_srd l Z aT hw [] b45 (1 : Int32) (((-2147483648 : Int32) &&& (-2147483648 : Int32)) ||| (x1 &&& (2147483647 : Int32))) T68.heap n0 Z68 q68_0 q68_1 ge45) hZ (hw _ (List.mem_of_getElem? (i := 38) rfl)) (hw _ (List.mem_of_getElem? (i := 2) rfl)) (by decide) (by decide)) q98a q98c (g := (mkF m 61 #[.val (.int x0), .val (.int x1), .val (.int x2), .val (.int x3), .val (.ref b45), .val (.int (F_red (-2147483648 : Int32))), .val (.int (x1 &&& (2147483647 : Int32))), .val (.int (F_red (((-2147483648 : Int32) &&& (-2147483648 : Int32)) ||| (x1 &&& (2147483647 : Int32))))), .val (.int (1 : Int32)), .unset, .unset, .unset, .unset, .unset, .unset] [(.int (1 : Int32)), (.ref b45)])) rfl (by rw [hml]; rfl) (Steps.refl _) (argsL := [(.int (1 : Int32))]) (rest := []) (lenOf pd5 rfl) rfl (by show 2 * 0 + _ ≤ _; exact Nat.le_of_eq rfl) (hb hby at_61) (fun _ _ => ⟨rfl, eq70, (by decide : 3 + 0 ≤ _), (by decide : 7 + 0 ≤ _)⟩)
    dsimp only [Pt.U, Pt.locs, Pt.cells, Pt.slots] at X98 l98 y98 z98 st98 hQ98
    subst l98 y98 z98
    obtain ⟨rfl, N98q, K98, q98_0, q98_1⟩ := hQ98
    have N98 := Fr.app N70 N98q
    have Z98 : n0 ≤ T98.heap.size := Nat.le_trans Z68 K98.1
    refine own_tr st98 ?_
    show own_Got p e below _ T98 (mkF m 64 #[.val (.int x0), .val (.int x1), .val (.int x2), .val (.int x3), .val (.ref b45), .val (.int (F_red (-2147483648 : Int32))), .val (.int (x1 &&& (2147483647 : Int32))), .val (.int (F_red (((-2147483648 : Int32) &&& (-2147483648 : Int32)) ||| (x1 &&& (2147483647 : Int32))))), .val (.int (1 : Int32)), .unset, .unset, .unset, .unset, .unset, .unset] [])
    refine g_aload X98 hx hby at_64 rfl rfl (rfl : 64 + 2 = 66) ?_
    obtain ⟨cq100, kq100, q100a, q100b, q100c⟩ := isOf hZ rfl q98_0
    obtain ⟨_, _, ⟨T100, L100, k100, n100⟩, -, X100, ⟨Lc100, hQ100, l100, y100, z100⟩, st100⟩ := X98.virtualBack hx (y := (⟨"com/example/leanbough/leanbough/LlrbTreeMap$Node", "red", "()Z"⟩ : MethodName)) (z := (⟨"com/example/leanbough/leanbough/LlrbTreeMap$Node", "red", "()Z"⟩ : MethodName)) hown (mvT hZ (hw _ (List.mem_of_getElem? (i := 23) rfl))) (mvT hZ (hw _ (List.mem_of_getElem? (i := 24) rfl))) (notFace_of_selects (args := #[]) (mvT hZ (hw _ (List.mem_of_getElem? (i := 26) rfl)))) (mvT hZ (hw _ (List.mem_of_getElem? (i := 26) rfl))) (mvT hZ (hw _ (List.mem_of_getElem? (i := 25) rfl))) (by decide) (backOf (W := 0) (rm_red l Z aT hw [] b45 (S_red (((-2147483648 : Int32) &&& (-2147483648 : Int32)) ||| (x1 &&& (2147483647 : Int32))) (1 : Int32)) T98.heap n0 Z98 q98_1) hZ (hw _ (List.mem_of_getElem? (i := 27) rfl)) (hw _ (List.mem_of_getElem? (i := 2) rfl)) (by decide) (by decide)) q100a q100c (g := (mkF m 66 #[.val (.int x0), .val (.int x1), .val (.int x2), .val (.int x3), .val (.ref b45), .val (.int (F_red (-2147483648 : Int32))), .val (.int (x1 &&& (2147483647 : Int32))), .val (.int (F_red (((-2147483648 : Int32) &&& (-2147483648 : Int32)) ||| (x1 &&& (2147483647 : Int32))))), .val (.int (1 : Int32)), .unset, .unset, .unset, .unset, .unset, .unset] [(.ref b45)])) rfl (by rw [hml]; rfl) (Steps.refl _) (argsL := []) (rest := []) (lenOf pd4 rfl) rfl (by show 2 * 0 + _ ≤ _; exact Nat.le_of_eq rfl) (hb hby at_66) (fun _ _ => ⟨rfl, rfl, (by decide : 3 + 0 ≤ _), (by decide : 7 + 0 ≤ _)⟩)
    dsimp only [Pt.U, Pt.locs, Pt.cells, Pt.slots] at X100 l100 y100 z100 st100 hQ100
    subst l100 y100 z100
    obtain ⟨rfl, N100q, eq100⟩ := hQ100
    have N100 := Fr.app N98 N100q
    refine own_tr st100 ?_
    show own_Got p e below _ T100 (mkF m 69 #[.val (.int x0), .val (.int x1), .val (.int x2), .val (.int x3), .val (.ref b45), .val (.int (F_red (-2147483648 : Int32))), .val (.int (x1 &&& (2147483647 : Int32))), .val (.int (F_red (((-2147483648 : Int32) &&& (-2147483648 : Int32)) ||| (x1 &&& (2147483647 : Int32))))), .val (.int (1 : Int32)), .unset, .unset, .unset, .unset, .unset, .unset] [(.int (F_red (S_red (((-2147483648 : Int32) &&& (-2147483648 : Int32)) ||| (x1 &&& (2147483647 : Int32))) (1 : Int32))))])
    refine g_istore X100 hx hby #[.val (.int x0), .val (.int x1), .val (.int x2), .val (.int x3), .val (.ref b45), .val (.int (F_red (-2147483648 : Int32))), .val (.int (x1 &&& (2147483647 : Int32))), .val (.int (F_red (((-2147483648 : Int32) &&& (-2147483648 : Int32)) ||| (x1 &&& (2147483647 : Int32))))), .val (.int (1 : Int32)), .val (.int (F_red (S_red (((-2147483648 : Int32) &&& (-2147483648 : Int32)) ||| (x1 &&& (2147483647 : Int32))) (1 : Int32)))), .unset, .unset, .unset, .unset, .unset] at_69 rfl (rfl : 69 + 2 = 71) ?_
    refine g_iloadN X100 hx hby at_71 rfl (rfl : 71 + 1 = 72) ?_
    refine g_ldcI X100 hx hby hZ hown (hw _ (List.mem_of_getElem? (i := 28) rfl)) at_72 (rfl : 72 + 2 = 74) ?_
    refine g_iand X100 hx hby at_74 (rfl : 74 + 1 = 75) ?_
    refine g_istore X100 hx hby #[.val (.int x0), .val (.int x1), .val (.int x2), .val (.int x3), .val (.ref b45), .val (.int (F_red (-2147483648 : Int32))), .val (.int (x1 &&& (2147483647 : Int32))), .val (.int (F_red (((-2147483648 : Int32) &&& (-2147483648 : Int32)) ||| (x1 &&& (2147483647 : Int32))))), .val (.int (1 : Int32)), .val (.int (F_red (S_red (((-2147483648 : Int32) &&& (-2147483648 : Int32)) ||| (x1 &&& (2147483647 : Int32))) (1 : Int32)))), .val (.int (x3 &&& (2147483647 : Int32))), .unset, .unset, .unset, .unset] at_75 rfl (rfl : 75 + 2 = 77) ?_
    refine g_aload X100 hx hby at_77 rfl rfl (rfl : 77 + 2 = 79) ?_
    refine g_iload X100 hx hby at_79 rfl (rfl : 79 + 2 = 81) ?_
    refine g_iload X100 hx hby at_81 rfl (rfl : 81 + 2 = 83) ?_
    refine g_isub X100 hx hby at_83 (rfl : 83 + 1 = 84) ?_
    have f102 : Exa Z T98.heap wc "[Ljava/lang/Integer;" := (Exa.keep f99 K98)
    obtain ⟨cq101, kq101, q101a, q101b, q101c⟩ := isOf hZ eq100 q98_0
    obtain ⟨_, _, ⟨T101, L101, k101, n101⟩, -, X101, ⟨Lc101, hQ101, l101, y101, z101⟩, st101⟩ := X100.virtualBack hx (y := (⟨"com/example/leanbough/leanbough/LlrbTreeMap$Node", "addToLeftCount", "(I)V"⟩ : MethodName)) (z := (⟨"com/example/leanbough/leanbough/LlrbTreeMap$Node", "addToLeftCount", "(I)V"⟩ : MethodName)) hown (mvT hZ (hw _ (List.mem_of_getElem? (i := 40) rfl))) (mvT hZ (hw _ (List.mem_of_getElem? (i := 41) rfl))) (notFace_of_selects (args := #[]) (mvT hZ (hw _ (List.mem_of_getElem? (i := 43) rfl)))) (mvT hZ (hw _ (List.mem_of_getElem? (i := 43) rfl))) (mvT hZ (hw _ (List.mem_of_getElem? (i := 42) rfl))) (by decide) (backOf (W := 0) (rm_alc l Z aT hw [] b45 ((x3 &&& (2147483647 : Int32)) - (x1 &&& (2147483647 : Int32))) (S_red (((-2147483648 : Int32) &&& (-2147483648 : Int32)) ||| (x1 &&& (2147483647 : Int32))) (1 : Int32)) T98.heap n0 Z98 q98_0 q98_1 ge45) hZ (hw _ (List.mem_of_getElem? (i := 44) rfl)) (hw _ (List.mem_of_getElem? (i := 2) rfl)) (by decide) (by decide)) q101a q101c (g := (mkF m 84 #[.val (.int x0), .val (.int x1), .val (.int x2), .val (.int x3), .val (.ref b45), .val (.int (F_red (-2147483648 : Int32))), .val (.int (x1 &&& (2147483647 : Int32))), .val (.int (F_red (((-2147483648 : Int32) &&& (-2147483648 : Int32)) ||| (x1 &&& (2147483647 : Int32))))), .val (.int (1 : Int32)), .val (.int (F_red (S_red (((-2147483648 : Int32) &&& (-2147483648 : Int32)) ||| (x1 &&& (2147483647 : Int32))) (1 : Int32)))), .val (.int (x3 &&& (2147483647 : Int32))), .unset, .unset, .unset, .unset] [(.int ((x3 &&& (2147483647 : Int32)) - (x1 &&& (2147483647 : Int32)))), (.ref b45)])) rfl (by rw [hml]; rfl) (Steps.refl _) (argsL := [(.int ((x3 &&& (2147483647 : Int32)) - (x1 &&& (2147483647 : Int32))))]) (rest := []) (lenOf pd1 rfl) rfl (by show 2 * 0 + _ ≤ _; exact Nat.le_of_eq rfl) (hb hby at_84) (fun _ _ => ⟨rfl, eq100, (by decide : 3 + 0 ≤ _), (by decide : 7 + 0 ≤ _)⟩)
    dsimp only [Pt.U, Pt.locs, Pt.cells, Pt.slots] at X101 l101 y101 z101 st101 hQ101
    subst l101 y101 z101
    obtain ⟨rfl, N101q, K101, q101_0, q101_1⟩ := hQ101
    have N101 := Fr.app N100 N101q
    have Z101 : n0 ≤ T101.heap.size := Nat.le_trans Z98 K101.1
    refine own_tr st101 ?_
    show own_Got p e below _ T101 (mkF m 87 #[.val (.int x0), .val (.int x1), .val (.int x2), .val (.int x3), .val (.ref b45), .val (.int (F_red (-2147483648 : Int32))), .val (.int (x1 &&& (2147483647 : Int32))), .val (.int (F_red (((-2147483648 : Int32) &&& (-2147483648 : Int32)) ||| (x1 &&& (2147483647 : Int32))))), .val (.int (1 : Int32)), .val (.int (F_red (S_red (((-2147483648 : Int32) &&& (-2147483648 : Int32)) ||| (x1 &&& (2147483647 : Int32))) (1 : Int32)))), .val (.int (x3 &&& (2147483647 : Int32))), .unset, .unset, .unset, .unset] [])
    refine g_aload X101 hx hby at_87 rfl rfl (rfl : 87 + 2 = 89) ?_
    obtain ⟨cq103, kq103, q103a, q103b, q103c⟩ := isOf hZ rfl q101_0
    obtain ⟨_, _, ⟨T103, L103, k103, n103⟩, -, X103, ⟨Lc103, hQ103, l103, y103, z103⟩, st103⟩ := X101.virtualBack hx (y := (⟨"com/example/leanbough/leanbough/LlrbTreeMap$Node", "red", "()Z"⟩ : MethodName)) (z := (⟨"com/example/leanbough/leanbough/LlrbTreeMap$Node", "red", "()Z"⟩ : MethodName)) hown (mvT hZ (hw _ (List.mem_of_getElem? (i := 23) rfl))) (mvT hZ (hw _ (List.mem_of_getElem? (i := 24) rfl))) (notFace_of_selects (args := #[]) (mvT hZ (hw _ (List.mem_of_getElem? (i := 26) rfl)))) (mvT hZ (hw _ (List.mem_of_getElem? (i := 26) rfl))) (mvT hZ (hw _ (List.mem_of_getElem? (i := 25) rfl))) (by decide) (backOf (W := 0) (rm_red l Z aT hw [] b45 ((S_red (((-2147483648 : Int32) &&& (-2147483648 : Int32)) ||| (x1 &&& (2147483647 : Int32))) (1 : Int32)) + ((x3 &&& (2147483647 : Int32)) - (x1 &&& (2147483647 : Int32)))) T101.heap n0 Z101 q101_1) hZ (hw _ (List.mem_of_getElem? (i := 27) rfl)) (hw _ (List.mem_of_getElem? (i := 2) rfl)) (by decide) (by decide)) q103a q103c (g := (mkF m 89 #[.val (.int x0), .val (.int x1), .val (.int x2), .val (.int x3), .val (.ref b45), .val (.int (F_red (-2147483648 : Int32))), .val (.int (x1 &&& (2147483647 : Int32))), .val (.int (F_red (((-2147483648 : Int32) &&& (-2147483648 : Int32)) ||| (x1 &&& (2147483647 : Int32))))), .val (.int (1 : Int32)), .val (.int (F_red (S_red (((-2147483648 : Int32) &&& (-2147483648 : Int32)) ||| (x1 &&& (2147483647 : Int32))) (1 : Int32)))), .val (.int (x3 &&& (2147483647 : Int32))), .unset, .unset, .unset, .unset] [(.ref b45)])) rfl (by rw [hml]; rfl) (Steps.refl _) (argsL := []) (rest := []) (lenOf pd4 rfl) rfl (by show 2 * 0 + _ ≤ _; exact Nat.le_of_eq rfl) (hb hby at_89) (fun _ _ => ⟨rfl, rfl, (by decide : 3 + 0 ≤ _), (by decide : 7 + 0 ≤ _)⟩)
    dsimp only [Pt.U, Pt.locs, Pt.cells, Pt.slots] at X103 l103 y103 z103 st103 hQ103
    subst l103 y103 z103
    obtain ⟨rfl, N103q, eq103⟩ := hQ103
    have N103 := Fr.app N101 N103q
    refine own_tr st103 ?_
    show own_Got p e below _ T103 (mkF m 92 #[.val (.int x0), .val (.int x1), .val (.int x2), .val (.int x3), .val (.ref b45), .val (.int (F_red (-2147483648 : Int32))), .val (.int (x1 &&& (2147483647 : Int32))), .val (.int (F_red (((-2147483648 : Int32) &&& (-2147483648 : Int32)) ||| (x1 &&& (2147483647 : Int32))))), .val (.int (1 : Int32)), .val (.int (F_red (S_red (((-2147483648 : Int32) &&& (-2147483648 : Int32)) ||| (x1 &&& (2147483647 : Int32))) (1 : Int32)))), .val (.int (x3 &&& (2147483647 : Int32))), .unset, .unset, .unset, .unset] [(.int (F_red ((S_red (((-2147483648 : Int32) &&& (-2147483648 : Int32)) ||| (x1 &&& (2147483647 : Int32))) (1 : Int32)) + ((x3 &&& (2147483647 : Int32)) - (x1 &&& (2147483647 : Int32))))))])
    refine g_istore X103 hx hby #[.val (.int x0), .val (.int x1), .val (.int x2), .val (.int x3), .val (.ref b45), .val (.int (F_red (-2147483648 : Int32))), .val (.int (x1 &&& (2147483647 : Int32))), .val (.int (F_red (((-2147483648 : Int32) &&& (-2147483648 : Int32)) ||| (x1 &&& (2147483647 : Int32))))), .val (.int (1 : Int32)), .val (.int (F_red (S_red (((-2147483648 : Int32) &&& (-2147483648 : Int32)) ||| (x1 &&& (2147483647 : Int32))) (1 : Int32)))), .val (.int (x3 &&& (2147483647 : Int32))), .val (.int (F_red ((S_red (((-2147483648 : Int32) &&& (-2147483648 : Int32)) ||| (x1 &&& (2147483647 : Int32))) (1 : Int32)) + ((x3 &&& (2147483647 : Int32)) - (x1 &&& (2147483647 : Int32)))))), .unset, .unset, .unset] at_92 rfl (rfl : 92 + 2 = 94) ?_
    refine g_aload X103 hx hby at_94 rfl rfl (rfl : 94 + 2 = 96) ?_
    obtain ⟨cq104, kq104, q104a, q104b, q104c⟩ := isOf hZ eq103 q101_0
    obtain ⟨_, _, ⟨T104, L104, k104, n104⟩, -, X104, ⟨Lc104, hQ104, l104, y104, z104⟩, st104⟩ := X103.virtualBack hx (y := (⟨"com/example/leanbough/leanbough/LlrbTreeMap$Node", "leftCount", "()I"⟩ : MethodName)) (z := (⟨"com/example/leanbough/leanbough/LlrbTreeMap$Node", "leftCount", "()I"⟩ : MethodName)) hown (mvT hZ (hw _ (List.mem_of_getElem? (i := 45) rfl))) (mvT hZ (hw _ (List.mem_of_getElem? (i := 46) rfl))) (notFace_of_selects (args := #[]) (mvT hZ (hw _ (List.mem_of_getElem? (i := 48) rfl)))) (mvT hZ (hw _ (List.mem_of_getElem? (i := 48) rfl))) (mvT hZ (hw _ (List.mem_of_getElem? (i := 47) rfl))) (by decide) (backOf (W := 0) (rm_lct l Z aT hw [] b45 ((S_red (((-2147483648 : Int32) &&& (-2147483648 : Int32)) ||| (x1 &&& (2147483647 : Int32))) (1 : Int32)) + ((x3 &&& (2147483647 : Int32)) - (x1 &&& (2147483647 : Int32)))) T101.heap n0 Z101 q101_1) hZ (hw _ (List.mem_of_getElem? (i := 49) rfl)) (hw _ (List.mem_of_getElem? (i := 2) rfl)) (by decide) (by decide)) q104a q104c (g := (mkF m 96 #[.val (.int x0), .val (.int x1), .val (.int x2), .val (.int x3), .val (.ref b45), .val (.int (F_red (-2147483648 : Int32))), .val (.int (x1 &&& (2147483647 : Int32))), .val (.int (F_red (((-2147483648 : Int32) &&& (-2147483648 : Int32)) ||| (x1 &&& (2147483647 : Int32))))), .val (.int (1 : Int32)), .val (.int (F_red (S_red (((-2147483648 : Int32) &&& (-2147483648 : Int32)) ||| (x1 &&& (2147483647 : Int32))) (1 : Int32)))), .val (.int (x3 &&& (2147483647 : Int32))), .val (.int (F_red ((S_red (((-2147483648 : Int32) &&& (-2147483648 : Int32)) ||| (x1 &&& (2147483647 : Int32))) (1 : Int32)) + ((x3 &&& (2147483647 : Int32)) - (x1 &&& (2147483647 : Int32)))))), .unset, .unset, .unset] [(.ref b45)])) rfl (by rw [hml]; rfl) (Steps.refl _) (argsL := []) (rest := []) (lenOf pd6 rfl) rfl (by show 2 * 0 + _ ≤ _; exact Nat.le_of_eq rfl) (hb hby at_96) (fun _ _ => ⟨rfl, eq103, (by decide : 3 + 0 ≤ _), (by decide : 7 + 0 ≤ _)⟩)
    dsimp only [Pt.U, Pt.locs, Pt.cells, Pt.slots] at X104 l104 y104 z104 st104 hQ104
    subst l104 y104 z104
    obtain ⟨rfl, N104q, eq104⟩ := hQ104
    have N104 := Fr.app N103 N104q
    refine own_tr st104 ?_
    show own_Got p e below _ T104 (mkF m 99 #[.val (.int x0), .val (.int x1), .val (.int x2), .val (.int x3), .val (.ref b45), .val (.int (F_red (-2147483648 : Int32))), .val (.int (x1 &&& (2147483647 : Int32))), .val (.int (F_red (((-2147483648 : Int32) &&& (-2147483648 : Int32)) ||| (x1 &&& (2147483647 : Int32))))), .val (.int (1 : Int32)), .val (.int (F_red (S_red (((-2147483648 : Int32) &&& (-2147483648 : Int32)) ||| (x1 &&& (2147483647 : Int32))) (1 : Int32)))), .val (.int (x3 &&& (2147483647 : Int32))), .val (.int (F_red ((S_red (((-2147483648 : Int32) &&& (-2147483648 : Int32)) ||| (x1 &&& (2147483647 : Int32))) (1 : Int32)) + ((x3 &&& (2147483647 : Int32)) - (x1 &&& (2147483647 : Int32)))))), .unset, .unset, .unset] [(.int (F_lct ((S_red (((-2147483648 : Int32) &&& (-2147483648 : Int32)) ||| (x1 &&& (2147483647 : Int32))) (1 : Int32)) + ((x3 &&& (2147483647 : Int32)) - (x1 &&& (2147483647 : Int32))))))])
    refine g_istore X104 hx hby #[.val (.int x0), .val (.int x1), .val (.int x2), .val (.int x3), .val (.ref b45), .val (.int (F_red (-2147483648 : Int32))), .val (.int (x1 &&& (2147483647 : Int32))), .val (.int (F_red (((-2147483648 : Int32) &&& (-2147483648 : Int32)) ||| (x1 &&& (2147483647 : Int32))))), .val (.int (1 : Int32)), .val (.int (F_red (S_red (((-2147483648 : Int32) &&& (-2147483648 : Int32)) ||| (x1 &&& (2147483647 : Int32))) (1 : Int32)))), .val (.int (x3 &&& (2147483647 : Int32))), .val (.int (F_red ((S_red (((-2147483648 : Int32) &&& (-2147483648 : Int32)) ||| (x1 &&& (2147483647 : Int32))) (1 : Int32)) + ((x3 &&& (2147483647 : Int32)) - (x1 &&& (2147483647 : Int32)))))), .val (.int (F_lct ((S_red (((-2147483648 : Int32) &&& (-2147483648 : Int32)) ||| (x1 &&& (2147483647 : Int32))) (1 : Int32)) + ((x3 &&& (2147483647 : Int32)) - (x1 &&& (2147483647 : Int32)))))), .unset, .unset] at_99 rfl (rfl : 99 + 2 = 101) ?_
    refine g_iloadN X104 hx hby at_101 rfl (rfl : 101 + 1 = 102) ?_
    refine g_iconst X104 hx hby (2 : Int32) at_102 (by decide) (rfl : 102 + 1 = 103) ?_
    refine g_iand X104 hx hby at_103 (rfl : 103 + 1 = 104) ?_
    by_cases c105 : (x2 &&& (2 : Int32)) = (0 : Int32)
    · refine g_ifT X104 hx hby at_104 ((if0 _ _).trans (teq c105).1) (by decide) (pc' := 111) (by decide) ?_
      refine g_iconst X104 hx hby (0 : Int32) at_111 (by decide) (rfl : 111 + 1 = 112) ?_
      refine g_istore X104 hx hby #[.val (.int x0), .val (.int x1), .val (.int x2), .val (.int x3), .val (.ref b45), .val (.int (F_red (-2147483648 : Int32))), .val (.int (x1 &&& (2147483647 : Int32))), .val (.int (F_red (((-2147483648 : Int32) &&& (-2147483648 : Int32)) ||| (x1 &&& (2147483647 : Int32))))), .val (.int (1 : Int32)), .val (.int (F_red (S_red (((-2147483648 : Int32) &&& (-2147483648 : Int32)) ||| (x1 &&& (2147483647 : Int32))) (1 : Int32)))), .val (.int (x3 &&& (2147483647 : Int32))), .val (.int (F_red ((S_red (((-2147483648 : Int32) &&& (-2147483648 : Int32)) ||| (x1 &&& (2147483647 : Int32))) (1 : Int32)) + ((x3 &&& (2147483647 : Int32)) - (x1 &&& (2147483647 : Int32)))))), .val (.int (F_lct ((S_red (((-2147483648 : Int32) &&& (-2147483648 : Int32)) ||| (x1 &&& (2147483647 : Int32))) (1 : Int32)) + ((x3 &&& (2147483647 : Int32)) - (x1 &&& (2147483647 : Int32)))))), .val (.int (0 : Int32)), .unset] at_112 rfl (rfl : 112 + 2 = 114) ?_
      refine g_aload X104 hx hby at_114 rfl rfl (rfl : 114 + 2 = 116) ?_
      refine g_iload X104 hx hby at_116 rfl (rfl : 116 + 2 = 118) ?_
      have f107 : Exa Z T101.heap wc "[Ljava/lang/Integer;" := (Exa.keep f102 K101)
      obtain ⟨cq106, kq106, q106a, q106b, q106c⟩ := isOf hZ eq104 q101_0
      obtain ⟨_, _, ⟨T106, L106, k106, n106⟩, -, X106, ⟨Lc106, hQ106, l106, y106, z106⟩, st106⟩ := X104.virtualBack hx (y := (⟨"com/example/leanbough/leanbough/LlrbTreeMap$Node", "setRed", "(Z)V"⟩ : MethodName)) (z := (⟨"com/example/leanbough/leanbough/LlrbTreeMap$Node", "setRed", "(Z)V"⟩ : MethodName)) hown (mvT hZ (hw _ (List.mem_of_getElem? (i := 34) rfl))) (mvT hZ (hw _ (List.mem_of_getElem? (i := 35) rfl))) (notFace_of_selects (args := #[]) (mvT hZ (hw _ (List.mem_of_getElem? (i := 37) rfl)))) (mvT hZ (hw _ (List.mem_of_getElem? (i := 37) rfl))) (mvT hZ (hw _ (List.mem_of_getElem? (i := 36) rfl))) (by decide) (backOf (W := 0) (rm_srd l Z aT hw [] b45 (0 : Int32) ((S_red (((-2147483648 : Int32) &&& (-2147483648 : Int32)) ||| (x1 &&& (2147483647 : Int32))) (1 : Int32)) + ((x3 &&& (2147483647 : Int32)) - (x1 &&& (2147483647 : Int32)))) T101.heap n0 Z101 q101_0 q101_1 ge45) hZ (hw _ (List.mem_of_getElem? (i := 38) rfl)) (hw _ (List.mem_of_getElem? (i := 2) rfl)) (by decide) (by decide)) q106a q106c (g := (mkF m 118 #[.val (.int x0), .val (.int x1), .val (.int x2), .val (.int x3), .val (.ref b45), .val (.int (F_red (-2147483648 : Int32))), .val (.int (x1 &&& (2147483647 : Int32))), .val (.int (F_red (((-2147483648 : Int32) &&& (-2147483648 : Int32)) ||| (x1 &&& (2147483647 : Int32))))), .val (.int (1 : Int32)), .val (.int (F_red (S_red (((-2147483648 : Int32) &&& (-2147483648 : Int32)) ||| (x1 &&& (2147483647 : Int32))) (1 : Int32)))), .val (.int (x3 &&& (2147483647 : Int32))), .val (.int (F_red ((S_red (((-2147483648 : Int32) &&& (-2147483648 : Int32)) ||| (x1 &&& (2147483647 : Int32))) (1 : Int32)) + ((x3 &&& (2147483647 : Int32)) - (x1 &&& (2147483647 : Int32)))))), .val (.int (F_lct ((S_red (((-2147483648 : Int32) &&& (-2147483648 : Int32)) ||| (x1 &&& (2147483647 : Int32))) (1 : Int32)) + ((x3 &&& (2147483647 : Int32)) - (x1 &&& (2147483647 : Int32)))))), .val (.int (0 : Int32)), .unset] [(.int (0 : Int32)), (.ref b45)])) rfl (by rw [hml]; rfl) (Steps.refl _) (argsL := [(.int (0 : Int32))]) (rest := []) (lenOf pd5 rfl) rfl (by show 2 * 0 + _ ≤ _; exact Nat.le_of_eq rfl) (hb hby at_118) (fun _ _ => ⟨rfl, eq104, (by decide : 3 + 0 ≤ _), (by decide : 7 + 0 ≤ _)⟩)
      dsimp only [Pt.U, Pt.locs, Pt.cells, Pt.slots] at X106 l106 y106 z106 st106 hQ106
      subst l106 y106 z106
      obtain ⟨rfl, N106q, K106, q106_0, q106_1⟩ := hQ106
      have N106 := Fr.app N104 N106q
      have Z106 : n0 ≤ T106.heap.size := Nat.le_trans Z101 K106.1
      refine own_tr st106 ?_
      show own_Got p e below _ T106 (mkF m 121 #[.val (.int x0), .val (.int x1), .val (.int x2), .val (.int x3), .val (.ref b45), .val (.int (F_red (-2147483648 : Int32))), .val (.int (x1 &&& (2147483647 : Int32))), .val (.int (F_red (((-2147483648 : Int32) &&& (-2147483648 : Int32)) ||| (x1 &&& (2147483647 : Int32))))), .val (.int (1 : Int32)), .val (.int (F_red (S_red (((-2147483648 : Int32) &&& (-2147483648 : Int32)) ||| (x1 &&& (2147483647 : Int32))) (1 : Int32)))), .val (.int (x3 &&& (2147483647 : Int32))), .val (.int (F_red ((S_red (((-2147483648 : Int32) &&& (-2147483648 : Int32)) ||| (x1 &&& (2147483647 : Int32))) (1 : Int32)) + ((x3 &&& (2147483647 : Int32)) - (x1 &&& (2147483647 : Int32)))))), .val (.int (F_lct ((S_red (((-2147483648 : Int32) &&& (-2147483648 : Int32)) ||| (x1 &&& (2147483647 : Int32))) (1 : Int32)) + ((x3 &&& (2147483647 : Int32)) - (x1 &&& (2147483647 : Int32)))))), .val (.int (0 : Int32)), .unset] [])
      refine g_aload X106 hx hby at_121 rfl rfl (rfl : 121 + 2 = 123) ?_
      obtain ⟨cq108, kq108, q108a, q108b, q108c⟩ := isOf hZ rfl q106_0
      obtain ⟨_, _, ⟨T108, L108, k108, n108⟩, -, X108, ⟨Lc108, hQ108, l108, y108, z108⟩, st108⟩ := X106.virtualBack hx (y := (⟨"com/example/leanbough/leanbough/LlrbTreeMap$Node", "red", "()Z"⟩ : MethodName)) (z := (⟨"com/example/leanbough/leanbough/LlrbTreeMap$Node", "red", "()Z"⟩ : MethodName)) hown (mvT hZ (hw _ (List.mem_of_getElem? (i := 23) rfl))) (mvT hZ (hw _ (List.mem_of_getElem? (i := 24) rfl))) (notFace_of_selects (args := #[]) (mvT hZ (hw _ (List.mem_of_getElem? (i := 26) rfl)))) (mvT hZ (hw _ (List.mem_of_getElem? (i := 26) rfl))) (mvT hZ (hw _ (List.mem_of_getElem? (i := 25) rfl))) (by decide) (backOf (W := 0) (rm_red l Z aT hw [] b45 (S_red ((S_red (((-2147483648 : Int32) &&& (-2147483648 : Int32)) ||| (x1 &&& (2147483647 : Int32))) (1 : Int32)) + ((x3 &&& (2147483647 : Int32)) - (x1 &&& (2147483647 : Int32)))) (0 : Int32)) T106.heap n0 Z106 q106_1) hZ (hw _ (List.mem_of_getElem? (i := 27) rfl)) (hw _ (List.mem_of_getElem? (i := 2) rfl)) (by decide) (by decide)) q108a q108c (g := (mkF m 123 #[.val (.int x0), .val (.int x1), .val (.int x2), .val (.int x3), .val (.ref b45), .val (.int (F_red (-2147483648 : Int32))), .val (.int (x1 &&& (2147483647 : Int32))), .val (.int (F_red (((-2147483648 : Int32) &&& (-2147483648 : Int32)) ||| (x1 &&& (2147483647 : Int32))))), .val (.int (1 : Int32)), .val (.int (F_red (S_red (((-2147483648 : Int32) &&& (-2147483648 : Int32)) ||| (x1 &&& (2147483647 : Int32))) (1 : Int32)))), .val (.int (x3 &&& (2147483647 : Int32))), .val (.int (F_red ((S_red (((-2147483648 : Int32) &&& (-2147483648 : Int32)) ||| (x1 &&& (2147483647 : Int32))) (1 : Int32)) + ((x3 &&& (2147483647 : Int32)) - (x1 &&& (2147483647 : Int32)))))), .val (.int (F_lct ((S_red (((-2147483648 : Int32) &&& (-2147483648 : Int32)) ||| (x1 &&& (2147483647 : Int32))) (1 : Int32)) + ((x3 &&& (2147483647 : Int32)) - (x1 &&& (2147483647 : Int32)))))), .val (.int (0 : Int32)), .unset] [(.ref b45)])) rfl (by rw [hml]; rfl) (Steps.refl _) (argsL := []) (rest := []) (lenOf pd4 rfl) rfl (by show 2 * 0 + _ ≤ _; exact Nat.le_of_eq rfl) (hb hby at_123) (fun _ _ => ⟨rfl, rfl, (by decide : 3 + 0 ≤ _), (by decide : 7 + 0 ≤ _)⟩)
      dsimp only [Pt.U, Pt.locs, Pt.cells, Pt.slots] at X108 l108 y108 z108 st108 hQ108
      subst l108 y108 z108
      obtain ⟨rfl, N108q, eq108⟩ := hQ108
      have N108 := Fr.app N106 N108q
      refine own_tr st108 ?_
      show own_Got p e below _ T108 (mkF m 126 #[.val (.int x0), .val (.int x1), .val (.int x2), .val (.int x3), .val (.ref b45), .val (.int (F_red (-2147483648 : Int32))), .val (.int (x1 &&& (2147483647 : Int32))), .val (.int (F_red (((-2147483648 : Int32) &&& (-2147483648 : Int32)) ||| (x1 &&& (2147483647 : Int32))))), .val (.int (1 : Int32)), .val (.int (F_red (S_red (((-2147483648 : Int32) &&& (-2147483648 : Int32)) ||| (x1 &&& (2147483647 : Int32))) (1 : Int32)))), .val (.int (x3 &&& (2147483647 : Int32))), .val (.int (F_red ((S_red (((-2147483648 : Int32) &&& (-2147483648 : Int32)) ||| (x1 &&& (2147483647 : Int32))) (1 : Int32)) + ((x3 &&& (2147483647 : Int32)) - (x1 &&& (2147483647 : Int32)))))), .val (.int (F_lct ((S_red (((-2147483648 : Int32) &&& (-2147483648 : Int32)) ||| (x1 &&& (2147483647 : Int32))) (1 : Int32)) + ((x3 &&& (2147483647 : Int32)) - (x1 &&& (2147483647 : Int32)))))), .val (.int (0 : Int32)), .unset] [(.int (F_red (S_red ((S_red (((-2147483648 : Int32) &&& (-2147483648 : Int32)) ||| (x1 &&& (2147483647 : Int32))) (1 : Int32)) + ((x3 &&& (2147483647 : Int32)) - (x1 &&& (2147483647 : Int32)))) (0 : Int32))))])
      refine g_istore X108 hx hby #[.val (.int x0), .val (.int x1), .val (.int x2), .val (.int x3), .val (.ref b45), .val (.int (F_red (-2147483648 : Int32))), .val (.int (x1 &&& (2147483647 : Int32))), .val (.int (F_red (((-2147483648 : Int32) &&& (-2147483648 : Int32)) ||| (x1 &&& (2147483647 : Int32))))), .val (.int (1 : Int32)), .val (.int (F_red (S_red (((-2147483648 : Int32) &&& (-2147483648 : Int32)) ||| (x1 &&& (2147483647 : Int32))) (1 : Int32)))), .val (.int (x3 &&& (2147483647 : Int32))), .val (.int (F_red ((S_red (((-2147483648 : Int32) &&& (-2147483648 : Int32)) ||| (x1 &&& (2147483647 : Int32))) (1 : Int32)) + ((x3 &&& (2147483647 : Int32)) - (x1 &&& (2147483647 : Int32)))))), .val (.int (F_lct ((S_red (((-2147483648 : Int32) &&& (-2147483648 : Int32)) ||| (x1 &&& (2147483647 : Int32))) (1 : Int32)) + ((x3 &&& (2147483647 : Int32)) - (x1 &&& (2147483647 : Int32)))))), .val (.int (0 : Int32)), .val (.int (F_red (S_red ((S_red (((-2147483648 : Int32) &&& (-2147483648 : Int32)) ||| (x1 &&& (2147483647 : Int32))) (1 : Int32)) + ((x3 &&& (2147483647 : Int32)) - (x1 &&& (2147483647 : Int32)))) (0 : Int32))))] at_126 rfl (rfl : 126 + 2 = 128) ?_
      refine g_iload X108 hx hby at_128 rfl (rfl : 128 + 2 = 130) ?_
      by_cases c109 : (F_red (-2147483648 : Int32)) = (0 : Int32)
      · refine g_ifT X108 hx hby at_130 ((if0 _ _).trans (teq c109).1) (by decide) (pc' := 170) (by decide) ?_
        refine g_iconst X108 hx hby (0 : Int32) at_170 (by decide) (rfl : 170 + 1 = 171) ?_
        refine own_retN X108 hx hby hlk (t := .boolean) hrt (by simp) at_171 (by decide) (by decide) ?_
        show Q_law Z x0 x1 x2 x3 wc h0 n0 _ T108.heap _
        exact ⟨(congrArg (fun z => some (Value.int z)) (by rw [F_law, if_neg c71, if_pos c105, if_pos c109] <;> rfl)), N108⟩
      · refine g_ifF X108 hx hby at_130 ((if0 _ _).trans (feq c109).1) (rfl : 130 + 3 = 133) ?_
        refine g_iload X108 hx hby at_133 rfl (rfl : 133 + 2 = 135) ?_
        by_cases c110 : (F_red (((-2147483648 : Int32) &&& (-2147483648 : Int32)) ||| (x1 &&& (2147483647 : Int32)))) = (0 : Int32)
        · refine g_ifT X108 hx hby at_135 ((if0 _ _).trans (teq c110).1) (by decide) (pc' := 170) (by decide) ?_
          refine g_iconst X108 hx hby (0 : Int32) at_170 (by decide) (rfl : 170 + 1 = 171) ?_
          refine own_retN X108 hx hby hlk (t := .boolean) hrt (by simp) at_171 (by decide) (by decide) ?_
          show Q_law Z x0 x1 x2 x3 wc h0 n0 _ T108.heap _
          exact ⟨(congrArg (fun z => some (Value.int z)) (by rw [F_law, if_neg c71, if_pos c105, if_neg c109, if_pos c110] <;> rfl)), N108⟩
        · refine g_ifF X108 hx hby at_135 ((if0 _ _).trans (feq c110).1) (rfl : 135 + 3 = 138) ?_
          refine g_iload X108 hx hby at_138 rfl (rfl : 138 + 2 = 140) ?_
          refine g_iload X108 hx hby at_140 rfl (rfl : 140 + 2 = 142) ?_
          by_cases c111 : (F_red (S_red (((-2147483648 : Int32) &&& (-2147483648 : Int32)) ||| (x1 &&& (2147483647 : Int32))) (1 : Int32))) = (1 : Int32)
          · refine g_icF X108 hx hby at_142 (teq c111).2 (rfl : 142 + 3 = 145) ?_
            refine g_iload X108 hx hby at_145 rfl (rfl : 145 + 2 = 147) ?_
            refine g_iload X108 hx hby at_147 rfl (rfl : 147 + 2 = 149) ?_
            by_cases c112 : (F_red ((S_red (((-2147483648 : Int32) &&& (-2147483648 : Int32)) ||| (x1 &&& (2147483647 : Int32))) (1 : Int32)) + ((x3 &&& (2147483647 : Int32)) - (x1 &&& (2147483647 : Int32))))) = (1 : Int32)
            · refine g_icF X108 hx hby at_149 (teq c112).2 (rfl : 149 + 3 = 152) ?_
              refine g_iload X108 hx hby at_152 rfl (rfl : 152 + 2 = 154) ?_
              refine g_iload X108 hx hby at_154 rfl (rfl : 154 + 2 = 156) ?_
              by_cases c113 : (F_lct ((S_red (((-2147483648 : Int32) &&& (-2147483648 : Int32)) ||| (x1 &&& (2147483647 : Int32))) (1 : Int32)) + ((x3 &&& (2147483647 : Int32)) - (x1 &&& (2147483647 : Int32))))) = (x3 &&& (2147483647 : Int32))
              · refine g_icF X108 hx hby at_156 (teq c113).2 (rfl : 156 + 3 = 159) ?_
                refine g_iload X108 hx hby at_159 rfl (rfl : 159 + 2 = 161) ?_
                refine g_iload X108 hx hby at_161 rfl (rfl : 161 + 2 = 163) ?_
                by_cases c114 : (F_red (S_red ((S_red (((-2147483648 : Int32) &&& (-2147483648 : Int32)) ||| (x1 &&& (2147483647 : Int32))) (1 : Int32)) + ((x3 &&& (2147483647 : Int32)) - (x1 &&& (2147483647 : Int32)))) (0 : Int32))) = (0 : Int32)
                · refine g_icF X108 hx hby at_163 (teq c114).2 (rfl : 163 + 3 = 166) ?_
                  refine g_iconst X108 hx hby (1 : Int32) at_166 (by decide) (rfl : 166 + 1 = 167) ?_
                  refine g_goto X108 hx hby at_167 (by decide) (pc' := 171) (by decide) ?_
                  refine own_retN X108 hx hby hlk (t := .boolean) hrt (by simp) at_171 (by decide) (by decide) ?_
                  show Q_law Z x0 x1 x2 x3 wc h0 n0 _ T108.heap _
                  exact ⟨(congrArg (fun z => some (Value.int z)) (by rw [F_law, if_neg c71, if_pos c105, if_neg c109, if_neg c110, if_pos c111, if_pos c112, if_pos c113, if_pos c114] <;> rfl)), N108⟩
                · refine g_icT X108 hx hby at_163 (feq c114).2 (by decide) (pc' := 170) (by decide) ?_
                  refine g_iconst X108 hx hby (0 : Int32) at_170 (by decide) (rfl : 170 + 1 = 171) ?_
                  refine own_retN X108 hx hby hlk (t := .boolean) hrt (by simp) at_171 (by decide) (by decide) ?_
                  show Q_law Z x0 x1 x2 x3 wc h0 n0 _ T108.heap _
                  exact ⟨(congrArg (fun z => some (Value.int z)) (by rw [F_law, if_neg c71, if_pos c105, if_neg c109, if_neg c110, if_pos c111, if_pos c112, if_pos c113, if_neg c114] <;> rfl)), N108⟩
              · refine g_icT X108 hx hby at_156 (feq c113).2 (by decide) (pc' := 170) (by decide) ?_
                refine g_iconst X108 hx hby (0 : Int32) at_170 (by decide) (rfl : 170 + 1 = 171) ?_
                refine own_retN X108 hx hby hlk (t := .boolean) hrt (by simp) at_171 (by decide) (by decide) ?_
                show Q_law Z x0 x1 x2 x3 wc h0 n0 _ T108.heap _
                exact ⟨(congrArg (fun z => some (Value.int z)) (by rw [F_law, if_neg c71, if_pos c105, if_neg c109, if_neg c110, if_pos c111, if_pos c112, if_neg c113] <;> rfl)), N108⟩
            · refine g_icT X108 hx hby at_149 (feq c112).2 (by decide) (pc' := 170) (by decide) ?_
              refine g_iconst X108 hx hby (0 : Int32) at_170 (by decide) (rfl : 170 + 1 = 171) ?_
              refine own_retN X108 hx hby hlk (t := .boolean) hrt (by simp) at_171 (by decide) (by decide) ?_
              show Q_law Z x0 x1 x2 x3 wc h0 n0 _ T108.heap _
              exact ⟨(congrArg (fun z => some (Value.int z)) (by rw [F_law, if_neg c71, if_pos c105, if_neg c109, if_neg c110, if_pos c111, if_neg c112] <;> rfl)), N108⟩
          · refine g_icT X108 hx hby at_142 (feq c111).2 (by decide) (pc' := 170) (by decide) ?_
            refine g_iconst X108 hx hby (0 : Int32) at_170 (by decide) (rfl : 170 + 1 = 171) ?_
            refine own_retN X108 hx hby hlk (t := .boolean) hrt (by simp) at_171 (by decide) (by decide) ?_
            show Q_law Z x0 x1 x2 x3 wc h0 n0 _ T108.heap _
            exact ⟨(congrArg (fun z => some (Value.int z)) (by rw [F_law, if_neg c71, if_pos c105, if_neg c109, if_neg c110, if_neg c111] <;> rfl)), N108⟩
    · refine g_ifF X104 hx hby at_104 ((if0 _ _).trans (feq c105).1) (rfl : 104 + 3 = 107) ?_
      refine g_iconst X104 hx hby (1 : Int32) at_107 (by decide) (rfl : 107 + 1 = 108) ?_
      refine g_goto X104 hx hby at_108 (by decide) (pc' := 112) (by decide) ?_
      refine g_istore X104 hx hby #[.val (.int x0), .val (.int x1), .val (.int x2), .val (.int x3), .val (.ref b45), .val (.int (F_red (-2147483648 : Int32))), .val (.int (x1 &&& (2147483647 : Int32))), .val (.int (F_red (((-2147483648 : Int32) &&& (-2147483648 : Int32)) ||| (x1 &&& (2147483647 : Int32))))), .val (.int (1 : Int32)), .val (.int (F_red (S_red (((-2147483648 : Int32) &&& (-2147483648 : Int32)) ||| (x1 &&& (2147483647 : Int32))) (1 : Int32)))), .val (.int (x3 &&& (2147483647 : Int32))), .val (.int (F_red ((S_red (((-2147483648 : Int32) &&& (-2147483648 : Int32)) ||| (x1 &&& (2147483647 : Int32))) (1 : Int32)) + ((x3 &&& (2147483647 : Int32)) - (x1 &&& (2147483647 : Int32)))))), .val (.int (F_lct ((S_red (((-2147483648 : Int32) &&& (-2147483648 : Int32)) ||| (x1 &&& (2147483647 : Int32))) (1 : Int32)) + ((x3 &&& (2147483647 : Int32)) - (x1 &&& (2147483647 : Int32)))))), .val (.int (1 : Int32)), .unset] at_112 rfl (rfl : 112 + 2 = 114) ?_
      refine g_aload X104 hx hby at_114 rfl rfl (rfl : 114 + 2 = 116) ?_
      refine g_iload X104 hx hby at_116 rfl (rfl : 116 + 2 = 118) ?_
      have f116 : Exa Z T101.heap wc "[Ljava/lang/Integer;" := (Exa.keep f102 K101)
      obtain ⟨cq115, kq115, q115a, q115b, q115c⟩ := isOf hZ eq104 q101_0
      obtain ⟨_, _, ⟨T115, L115, k115, n115⟩, -, X115, ⟨Lc115, hQ115, l115, y115, z115⟩, st115⟩ := X104.virtualBack hx (y := (⟨"com/example/leanbough/leanbough/LlrbTreeMap$Node", "setRed", "(Z)V"⟩ : MethodName)) (z := (⟨"com/example/leanbough/leanbough/LlrbTreeMap$Node", "setRed", "(Z)V"⟩ : MethodName)) hown (mvT hZ (hw _ (List.mem_of_getElem? (i := 34) rfl))) (mvT hZ (hw _ (List.mem_of_getElem? (i := 35) rfl))) (notFace_of_selects (args := #[]) (mvT hZ (hw _ (List.mem_of_getElem? (i := 37) rfl)))) (mvT hZ (hw _ (List.mem_of_getElem? (i := 37) rfl))) (mvT hZ (hw _ (List.mem_of_getElem? (i := 36) rfl))) (by decide) (backOf (W := 0) (rm_srd l Z aT hw [] b45 (1 : Int32) ((S_red (((-2147483648 : Int32) &&& (-2147483648 : Int32)) ||| (x1 &&& (2147483647 : Int32))) (1 : Int32)) + ((x3 &&& (2147483647 : Int32)) - (x1 &&& (2147483647 : Int32)))) T101.heap n0 Z101 q101_0 q101_1 ge45) hZ (hw _ (List.mem_of_getElem? (i := 38) rfl)) (hw _ (List.mem_of_getElem? (i := 2) rfl)) (by decide) (by decide)) q115a q115c (g := (mkF m 118 #[.val (.int x0), .val (.int x1), .val (.int x2), .val (.int x3), .val (.ref b45), .val (.int (F_red (-2147483648 : Int32))), .val (.int (x1 &&& (2147483647 : Int32))), .val (.int (F_red (((-2147483648 : Int32) &&& (-2147483648 : Int32)) ||| (x1 &&& (2147483647 : Int32))))), .val (.int (1 : Int32)), .val (.int (F_red (S_red (((-2147483648 : Int32) &&& (-2147483648 : Int32)) ||| (x1 &&& (2147483647 : Int32))) (1 : Int32)))), .val (.int (x3 &&& (2147483647 : Int32))), .val (.int (F_red ((S_red (((-2147483648 : Int32) &&& (-2147483648 : Int32)) ||| (x1 &&& (2147483647 : Int32))) (1 : Int32)) + ((x3 &&& (2147483647 : Int32)) - (x1 &&& (2147483647 : Int32)))))), .val (.int (F_lct ((S_red (((-2147483648 : Int32) &&& (-2147483648 : Int32)) ||| (x1 &&& (2147483647 : Int32))) (1 : Int32)) + ((x3 &&& (2147483647 : Int32)) - (x1 &&& (2147483647 : Int32)))))), .val (.int (1 : Int32)), .unset] [(.int (1 : Int32)), (.ref b45)])) rfl (by rw [hml]; rfl) (Steps.refl _) (argsL := [(.int (1 : Int32))]) (rest := []) (lenOf pd5 rfl) rfl (by show 2 * 0 + _ ≤ _; exact Nat.le_of_eq rfl) (hb hby at_118) (fun _ _ => ⟨rfl, eq104, (by decide : 3 + 0 ≤ _), (by decide : 7 + 0 ≤ _)⟩)
      dsimp only [Pt.U, Pt.locs, Pt.cells, Pt.slots] at X115 l115 y115 z115 st115 hQ115
      subst l115 y115 z115
      obtain ⟨rfl, N115q, K115, q115_0, q115_1⟩ := hQ115
      have N115 := Fr.app N104 N115q
      have Z115 : n0 ≤ T115.heap.size := Nat.le_trans Z101 K115.1
      refine own_tr st115 ?_
      show own_Got p e below _ T115 (mkF m 121 #[.val (.int x0), .val (.int x1), .val (.int x2), .val (.int x3), .val (.ref b45), .val (.int (F_red (-2147483648 : Int32))), .val (.int (x1 &&& (2147483647 : Int32))), .val (.int (F_red (((-2147483648 : Int32) &&& (-2147483648 : Int32)) ||| (x1 &&& (2147483647 : Int32))))), .val (.int (1 : Int32)), .val (.int (F_red (S_red (((-2147483648 : Int32) &&& (-2147483648 : Int32)) ||| (x1 &&& (2147483647 : Int32))) (1 : Int32)))), .val (.int (x3 &&& (2147483647 : Int32))), .val (.int (F_red ((S_red (((-2147483648 : Int32) &&& (-2147483648 : Int32)) ||| (x1 &&& (2147483647 : Int32))) (1 : Int32)) + ((x3 &&& (2147483647 : Int32)) - (x1 &&& (2147483647 : Int32)))))), .val (.int (F_lct ((S_red (((-2147483648 : Int32) &&& (-2147483648 : Int32)) ||| (x1 &&& (2147483647 : Int32))) (1 : Int32)) + ((x3 &&& (2147483647 : Int32)) - (x1 &&& (2147483647 : Int32)))))), .val (.int (1 : Int32)), .unset] [])
      refine g_aload X115 hx hby at_121 rfl rfl (rfl : 121 + 2 = 123) ?_
      obtain ⟨cq117, kq117, q117a, q117b, q117c⟩ := isOf hZ rfl q115_0
      obtain ⟨_, _, ⟨T117, L117, k117, n117⟩, -, X117, ⟨Lc117, hQ117, l117, y117, z117⟩, st117⟩ := X115.virtualBack hx (y := (⟨"com/example/leanbough/leanbough/LlrbTreeMap$Node", "red", "()Z"⟩ : MethodName)) (z := (⟨"com/example/leanbough/leanbough/LlrbTreeMap$Node", "red", "()Z"⟩ : MethodName)) hown (mvT hZ (hw _ (List.mem_of_getElem? (i := 23) rfl))) (mvT hZ (hw _ (List.mem_of_getElem? (i := 24) rfl))) (notFace_of_selects (args := #[]) (mvT hZ (hw _ (List.mem_of_getElem? (i := 26) rfl)))) (mvT hZ (hw _ (List.mem_of_getElem? (i := 26) rfl))) (mvT hZ (hw _ (List.mem_of_getElem? (i := 25) rfl))) (by decide) (backOf (W := 0) (rm_red l Z aT hw [] b45 (S_red ((S_red (((-2147483648 : Int32) &&& (-2147483648 : Int32)) ||| (x1 &&& (2147483647 : Int32))) (1 : Int32)) + ((x3 &&& (2147483647 : Int32)) - (x1 &&& (2147483647 : Int32)))) (1 : Int32)) T115.heap n0 Z115 q115_1) hZ (hw _ (List.mem_of_getElem? (i := 27) rfl)) (hw _ (List.mem_of_getElem? (i := 2) rfl)) (by decide) (by decide)) q117a q117c (g := (mkF m 123 #[.val (.int x0), .val (.int x1), .val (.int x2), .val (.int x3), .val (.ref b45), .val (.int (F_red (-2147483648 : Int32))), .val (.int (x1 &&& (2147483647 : Int32))), .val (.int (F_red (((-2147483648 : Int32) &&& (-2147483648 : Int32)) ||| (x1 &&& (2147483647 : Int32))))), .val (.int (1 : Int32)), .val (.int (F_red (S_red (((-2147483648 : Int32) &&& (-2147483648 : Int32)) ||| (x1 &&& (2147483647 : Int32))) (1 : Int32)))), .val (.int (x3 &&& (2147483647 : Int32))), .val (.int (F_red ((S_red (((-2147483648 : Int32) &&& (-2147483648 : Int32)) ||| (x1 &&& (2147483647 : Int32))) (1 : Int32)) + ((x3 &&& (2147483647 : Int32)) - (x1 &&& (2147483647 : Int32)))))), .val (.int (F_lct ((S_red (((-2147483648 : Int32) &&& (-2147483648 : Int32)) ||| (x1 &&& (2147483647 : Int32))) (1 : Int32)) + ((x3 &&& (2147483647 : Int32)) - (x1 &&& (2147483647 : Int32)))))), .val (.int (1 : Int32)), .unset] [(.ref b45)])) rfl (by rw [hml]; rfl) (Steps.refl _) (argsL := []) (rest := []) (lenOf pd4 rfl) rfl (by show 2 * 0 + _ ≤ _; exact Nat.le_of_eq rfl) (hb hby at_123) (fun _ _ => ⟨rfl, rfl, (by decide : 3 + 0 ≤ _), (by decide : 7 + 0 ≤ _)⟩)
      dsimp only [Pt.U, Pt.locs, Pt.cells, Pt.slots] at X117 l117 y117 z117 st117 hQ117
      subst l117 y117 z117
      obtain ⟨rfl, N117q, eq117⟩ := hQ117
      have N117 := Fr.app N115 N117q
      refine own_tr st117 ?_
      show own_Got p e below _ T117 (mkF m 126 #[.val (.int x0), .val (.int x1), .val (.int x2), .val (.int x3), .val (.ref b45), .val (.int (F_red (-2147483648 : Int32))), .val (.int (x1 &&& (2147483647 : Int32))), .val (.int (F_red (((-2147483648 : Int32) &&& (-2147483648 : Int32)) ||| (x1 &&& (2147483647 : Int32))))), .val (.int (1 : Int32)), .val (.int (F_red (S_red (((-2147483648 : Int32) &&& (-2147483648 : Int32)) ||| (x1 &&& (2147483647 : Int32))) (1 : Int32)))), .val (.int (x3 &&& (2147483647 : Int32))), .val (.int (F_red ((S_red (((-2147483648 : Int32) &&& (-2147483648 : Int32)) ||| (x1 &&& (2147483647 : Int32))) (1 : Int32)) + ((x3 &&& (2147483647 : Int32)) - (x1 &&& (2147483647 : Int32)))))), .val (.int (F_lct ((S_red (((-2147483648 : Int32) &&& (-2147483648 : Int32)) ||| (x1 &&& (2147483647 : Int32))) (1 : Int32)) + ((x3 &&& (2147483647 : Int32)) - (x1 &&& (2147483647 : Int32)))))), .val (.int (1 : Int32)), .unset] [(.int (F_red (S_red ((S_red (((-2147483648 : Int32) &&& (-2147483648 : Int32)) ||| (x1 &&& (2147483647 : Int32))) (1 : Int32)) + ((x3 &&& (2147483647 : Int32)) - (x1 &&& (2147483647 : Int32)))) (1 : Int32))))])
      refine g_istore X117 hx hby #[.val (.int x0), .val (.int x1), .val (.int x2), .val (.int x3), .val (.ref b45), .val (.int (F_red (-2147483648 : Int32))), .val (.int (x1 &&& (2147483647 : Int32))), .val (.int (F_red (((-2147483648 : Int32) &&& (-2147483648 : Int32)) ||| (x1 &&& (2147483647 : Int32))))), .val (.int (1 : Int32)), .val (.int (F_red (S_red (((-2147483648 : Int32) &&& (-2147483648 : Int32)) ||| (x1 &&& (2147483647 : Int32))) (1 : Int32)))), .val (.int (x3 &&& (2147483647 : Int32))), .val (.int (F_red ((S_red (((-2147483648 : Int32) &&& (-2147483648 : Int32)) ||| (x1 &&& (2147483647 : Int32))) (1 : Int32)) + ((x3 &&& (2147483647 : Int32)) - (x1 &&& (2147483647 : Int32)))))), .val (.int (F_lct ((S_red (((-2147483648 : Int32) &&& (-2147483648 : Int32)) ||| (x1 &&& (2147483647 : Int32))) (1 : Int32)) + ((x3 &&& (2147483647 : Int32)) - (x1 &&& (2147483647 : Int32)))))), .val (.int (1 : Int32)), .val (.int (F_red (S_red ((S_red (((-2147483648 : Int32) &&& (-2147483648 : Int32)) ||| (x1 &&& (2147483647 : Int32))) (1 : Int32)) + ((x3 &&& (2147483647 : Int32)) - (x1 &&& (2147483647 : Int32)))) (1 : Int32))))] at_126 rfl (rfl : 126 + 2 = 128) ?_
      refine g_iload X117 hx hby at_128 rfl (rfl : 128 + 2 = 130) ?_
      by_cases c118 : (F_red (-2147483648 : Int32)) = (0 : Int32)
      · refine g_ifT X117 hx hby at_130 ((if0 _ _).trans (teq c118).1) (by decide) (pc' := 170) (by decide) ?_
        refine g_iconst X117 hx hby (0 : Int32) at_170 (by decide) (rfl : 170 + 1 = 171) ?_
        refine own_retN X117 hx hby hlk (t := .boolean) hrt (by simp) at_171 (by decide) (by decide) ?_
        show Q_law Z x0 x1 x2 x3 wc h0 n0 _ T117.heap _
        exact ⟨(congrArg (fun z => some (Value.int z)) (by rw [F_law, if_neg c71, if_neg c105, if_pos c118] <;> rfl)), N117⟩
      · refine g_ifF X117 hx hby at_130 ((if0 _ _).trans (feq c118).1) (rfl : 130 + 3 = 133) ?_
        refine g_iload X117 hx hby at_133 rfl (rfl : 133 + 2 = 135) ?_
        by_cases c119 : (F_red (((-2147483648 : Int32) &&& (-2147483648 : Int32)) ||| (x1 &&& (2147483647 : Int32)))) = (0 : Int32)
        · refine g_ifT X117 hx hby at_135 ((if0 _ _).trans (teq c119).1) (by decide) (pc' := 170) (by decide) ?_
          refine g_iconst X117 hx hby (0 : Int32) at_170 (by decide) (rfl : 170 + 1 = 171) ?_
          refine own_retN X117 hx hby hlk (t := .boolean) hrt (by simp) at_171 (by decide) (by decide) ?_
          show Q_law Z x0 x1 x2 x3 wc h0 n0 _ T117.heap _
          exact ⟨(congrArg (fun z => some (Value.int z)) (by rw [F_law, if_neg c71, if_neg c105, if_neg c118, if_pos c119] <;> rfl)), N117⟩
        · refine g_ifF X117 hx hby at_135 ((if0 _ _).trans (feq c119).1) (rfl : 135 + 3 = 138) ?_
          refine g_iload X117 hx hby at_138 rfl (rfl : 138 + 2 = 140) ?_
          refine g_iload X117 hx hby at_140 rfl (rfl : 140 + 2 = 142) ?_
          by_cases c120 : (F_red (S_red (((-2147483648 : Int32) &&& (-2147483648 : Int32)) ||| (x1 &&& (2147483647 : Int32))) (1 : Int32))) = (1 : Int32)
          · refine g_icF X117 hx hby at_142 (teq c120).2 (rfl : 142 + 3 = 145) ?_
            refine g_iload X117 hx hby at_145 rfl (rfl : 145 + 2 = 147) ?_
            refine g_iload X117 hx hby at_147 rfl (rfl : 147 + 2 = 149) ?_
            by_cases c121 : (F_red ((S_red (((-2147483648 : Int32) &&& (-2147483648 : Int32)) ||| (x1 &&& (2147483647 : Int32))) (1 : Int32)) + ((x3 &&& (2147483647 : Int32)) - (x1 &&& (2147483647 : Int32))))) = (1 : Int32)
            · refine g_icF X117 hx hby at_149 (teq c121).2 (rfl : 149 + 3 = 152) ?_
              refine g_iload X117 hx hby at_152 rfl (rfl : 152 + 2 = 154) ?_
              refine g_iload X117 hx hby at_154 rfl (rfl : 154 + 2 = 156) ?_
              by_cases c122 : (F_lct ((S_red (((-2147483648 : Int32) &&& (-2147483648 : Int32)) ||| (x1 &&& (2147483647 : Int32))) (1 : Int32)) + ((x3 &&& (2147483647 : Int32)) - (x1 &&& (2147483647 : Int32))))) = (x3 &&& (2147483647 : Int32))
              · refine g_icF X117 hx hby at_156 (teq c122).2 (rfl : 156 + 3 = 159) ?_
                refine g_iload X117 hx hby at_159 rfl (rfl : 159 + 2 = 161) ?_
                refine g_iload X117 hx hby at_161 rfl (rfl : 161 + 2 = 163) ?_
                by_cases c123 : (F_red (S_red ((S_red (((-2147483648 : Int32) &&& (-2147483648 : Int32)) ||| (x1 &&& (2147483647 : Int32))) (1 : Int32)) + ((x3 &&& (2147483647 : Int32)) - (x1 &&& (2147483647 : Int32)))) (1 : Int32))) = (1 : Int32)
                · refine g_icF X117 hx hby at_163 (teq c123).2 (rfl : 163 + 3 = 166) ?_
                  refine g_iconst X117 hx hby (1 : Int32) at_166 (by decide) (rfl : 166 + 1 = 167) ?_
                  refine g_goto X117 hx hby at_167 (by decide) (pc' := 171) (by decide) ?_
                  refine own_retN X117 hx hby hlk (t := .boolean) hrt (by simp) at_171 (by decide) (by decide) ?_
                  show Q_law Z x0 x1 x2 x3 wc h0 n0 _ T117.heap _
                  exact ⟨(congrArg (fun z => some (Value.int z)) (by rw [F_law, if_neg c71, if_neg c105, if_neg c118, if_neg c119, if_pos c120, if_pos c121, if_pos c122, if_pos c123] <;> rfl)), N117⟩
                · refine g_icT X117 hx hby at_163 (feq c123).2 (by decide) (pc' := 170) (by decide) ?_
                  refine g_iconst X117 hx hby (0 : Int32) at_170 (by decide) (rfl : 170 + 1 = 171) ?_
                  refine own_retN X117 hx hby hlk (t := .boolean) hrt (by simp) at_171 (by decide) (by decide) ?_
                  show Q_law Z x0 x1 x2 x3 wc h0 n0 _ T117.heap _
                  exact ⟨(congrArg (fun z => some (Value.int z)) (by rw [F_law, if_neg c71, if_neg c105, if_neg c118, if_neg c119, if_pos c120, if_pos c121, if_pos c122, if_neg c123] <;> rfl)), N117⟩
              · refine g_icT X117 hx hby at_156 (feq c122).2 (by decide) (pc' := 170) (by decide) ?_
                refine g_iconst X117 hx hby (0 : Int32) at_170 (by decide) (rfl : 170 + 1 = 171) ?_
                refine own_retN X117 hx hby hlk (t := .boolean) hrt (by simp) at_171 (by decide) (by decide) ?_
                show Q_law Z x0 x1 x2 x3 wc h0 n0 _ T117.heap _
                exact ⟨(congrArg (fun z => some (Value.int z)) (by rw [F_law, if_neg c71, if_neg c105, if_neg c118, if_neg c119, if_pos c120, if_pos c121, if_neg c122] <;> rfl)), N117⟩
            · refine g_icT X117 hx hby at_149 (feq c121).2 (by decide) (pc' := 170) (by decide) ?_
              refine g_iconst X117 hx hby (0 : Int32) at_170 (by decide) (rfl : 170 + 1 = 171) ?_
              refine own_retN X117 hx hby hlk (t := .boolean) hrt (by simp) at_171 (by decide) (by decide) ?_
              show Q_law Z x0 x1 x2 x3 wc h0 n0 _ T117.heap _
              exact ⟨(congrArg (fun z => some (Value.int z)) (by rw [F_law, if_neg c71, if_neg c105, if_neg c118, if_neg c119, if_pos c120, if_neg c121] <;> rfl)), N117⟩
          · refine g_icT X117 hx hby at_142 (feq c120).2 (by decide) (pc' := 170) (by decide) ?_
            refine g_iconst X117 hx hby (0 : Int32) at_170 (by decide) (rfl : 170 + 1 = 171) ?_
            refine own_retN X117 hx hby hlk (t := .boolean) hrt (by simp) at_171 (by decide) (by decide) ?_
            show Q_law Z x0 x1 x2 x3 wc h0 n0 _ T117.heap _
            exact ⟨(congrArg (fun z => some (Value.int z)) (by rw [F_law, if_neg c71, if_neg c105, if_neg c118, if_neg c119, if_neg c120] <;> rfl)), N117⟩
theorem own_ext {x y : Int32} (h : ∀ i : Nat, i < 32 → x.toBitVec.getLsbD i = y.toBitVec.getLsbD i) : x = y :=
  Int32.toBitVec_inj.mp (BitVec.eq_of_getLsbD_eq h)
theorem own_M (i : Nat) (h : i < 32) : (2147483647 : Int32).toBitVec.getLsbD i = decide (i < 31) := by
  have t : ∀ k : Fin 32, (2147483647 : Int32).toBitVec.getLsbD k.val = decide (k.val < 31) := by decide +kernel
  exact t ⟨i, h⟩
theorem own_N (i : Nat) (h : i < 32) : (-2147483648 : Int32).toBitVec.getLsbD i = decide (i = 31) := by
  have t : ∀ k : Fin 32, (-2147483648 : Int32).toBitVec.getLsbD k.val = decide (k.val = 31) := by decide +kernel
  exact t ⟨i, h⟩
theorem own_MM (x : Int32) : (x &&& 2147483647) &&& 2147483647 = x &&& 2147483647 := by
  apply own_ext; intro i hi; simp only [Int32.toBitVec_and, BitVec.getLsbD_and, own_M i hi]; cases x.toBitVec.getLsbD i <;> simp
theorem own_MN (x : Int32) : (x &&& 2147483647) &&& -2147483648 = 0 := by
  apply own_ext; intro i hi; simp only [Int32.toBitVec_and, BitVec.getLsbD_and, own_M i hi, own_N i hi]
  have e : (0 : Int32).toBitVec.getLsbD i = false := by
    have t : ∀ k : Fin 32, (0 : Int32).toBitVec.getLsbD k.val = false := by decide +kernel
    exact t ⟨i, hi⟩
  rw [e]
  by_cases q : i < 31
  · have : ¬ i = 31 := by omega
    simp [this]
  · simp [q]
theorem own_NM (x : Int32) : (-2147483648 ||| (x &&& 2147483647)) &&& 2147483647 = x &&& 2147483647 := by
  apply own_ext; intro i hi; simp only [Int32.toBitVec_and, Int32.toBitVec_or, BitVec.getLsbD_or, BitVec.getLsbD_and, own_M i hi, own_N i hi]
  by_cases q : i < 31
  · have : ¬ i = 31 := by omega
    simp [this, q]
  · simp [q]
theorem own_NN (y : Int32) : (-2147483648 ||| y) &&& -2147483648 = -2147483648 := by
  apply own_ext; intro i hi; simp only [Int32.toBitVec_and, Int32.toBitVec_or, BitVec.getLsbD_or, BitVec.getLsbD_and, own_N i hi]
  cases y.toBitVec.getLsbD i <;> simp
theorem own_NoN (y : Int32) : (-2147483648 ||| y) ||| -2147483648 = -2147483648 ||| y := by
  apply own_ext; intro i hi; simp only [Int32.toBitVec_or, BitVec.getLsbD_or, own_N i hi]
  cases y.toBitVec.getLsbD i <;> simp
theorem own_NNo (y : Int32) : -2147483648 ||| (-2147483648 ||| y) = -2147483648 ||| y := by
  apply own_ext; intro i hi; simp only [Int32.toBitVec_or, BitVec.getLsbD_or, own_N i hi]
  cases y.toBitVec.getLsbD i <;> simp
theorem own_oN (y : Int32) : y ||| -2147483648 = -2147483648 ||| y := Int32.or_comm _ _
theorem own_Nadd (x : Int32) : -2147483648 + (x &&& 2147483647) = -2147483648 ||| (x &&& 2147483647) := by
  apply Int32.toBitVec_inj.mp
  rw [Int32.toBitVec_add, Int32.toBitVec_or]
  apply BitVec.add_eq_or_of_and_eq_zero
  have h := congrArg Int32.toBitVec (own_MN x)
  rw [Int32.toBitVec_and] at h
  rw [BitVec.and_comm]; exact h
theorem own_nn (x : Int32) : ¬ (x &&& 2147483647) < 0 := by
  have h := c_and x 2147483647 (by decide)
  rw [Int32.lt_iff_toInt_lt]
  have e0 : (0 : Int32).toInt = 0 := by decide
  omega
theorem own_neg (y : Int32) : (-2147483648 ||| y) < 0 := by
  have h := (c_orS (-2147483648) y).2.1 (by decide)
  rw [Int32.lt_iff_toInt_lt]
  have e0 : (0 : Int32).toInt = 0 := by decide
  omega
theorem own_S0 (w : Int32) : S_red w 0 = w &&& 2147483647 := by rw [S_red, if_pos rfl]
theorem own_S1 (w : Int32) : S_red w 1 = w ||| -2147483648 := by rw [S_red, if_neg (by decide)]
theorem own_lct (w : Int32) : F_lct w = w &&& 2147483647 := rfl
theorem own_r0 {w : Int32} (h : ¬ w < 0) : F_red w = 0 := by rw [F_red, if_neg h]
theorem own_r1 {w : Int32} (h : w < 0) : F_red w = 1 := by rw [F_red, if_pos h]

theorem own_plain (a b c d : Int32) : F_law a b c d = 1 := by
  have n1 : (-2147483648 : Int32) &&& -2147483648 = -2147483648 := by decide
  have s0 (x y : Int32) : x + (y - x) = y := by
    apply Int32.toInt_inj.mp
    have := c_isub y x; have := c_iadd x (y - x); have := rng32 (y - x); have := rng32 y; have := rng32 x; have := rng32 (x + (y - x)); omega
  have s1 (x y : Int32) : (-2147483648 ||| (x &&& 2147483647)) + ((y &&& 2147483647) - (x &&& 2147483647)) = -2147483648 ||| (y &&& 2147483647) := by
    rw [← own_Nadd, Int32.add_assoc, s0, own_Nadd]
  have r1 : F_red (-2147483648) = 1 := own_r1 (by decide)
  simp [F_law, own_S0, own_S1, own_lct, n1, own_oN, own_NNo, own_NM, own_MM, s0, s1, r1, own_r0 (own_nn _), own_r1 (own_neg _)]

set_option maxRecDepth 65536 in
set_option maxHeartbeats 40000000 in
theorem comes_1 {Post : Tables → Env → Array Value → State → Outcome → State → Prop} (hpost : ∀ tb e args s v u, (limb_1_1.after args s (.returned v) u = true ∧ limb_1_2.after args s (.returned v) u = true ∧ True) → FrameEnd s (.returned v) u (Jvm.fieldLocs frame_1_writes args s ++ Jvm.arrayLocs frame_1_arrays args s ++ Jvm.staticLocs frame_1_statics s) 16 128 → Post tb e args s (.returned v) u) :
    ArmFor flags0 classFile x code maxLocals ret World_1 tables_1 room_1 Calls_1 rest_1 Pre_1 Post := by
  intro l hfl _ _ p e ha hc hk s m args below hf hA hF happ hP
  obtain ⟨hcalls, hrest, hpre⟩ := hP
  obtain ⟨-, -, -, hnamed, -, -, -, hat⟩ := (Spec.applies_iff hf).mp happ
  obtain ⟨hg, hn⟩ := and_e (Cond.before_iff.mp (show (Jvm.Cond.and given_1 narrow_1).before args s = true from hpre))
  obtain ⟨hcnt, hg0⟩ := and_e hg
  obtain ⟨ha0, hg1⟩ := and_e hg0
  obtain ⟨ha1, hg2⟩ := and_e hg1
  obtain ⟨ha2, hg3⟩ := and_e hg2
  obtain ⟨w0, w1, w2, w3, rfl⟩ : ∃ w0 w1 w2 w3 : Value, args = #[w0, w1, w2, w3] := by
    have hs : args.size = 4 := by simpa [Cond.value, given_1] using hcnt
    obtain ⟨L⟩ := args
    match L, hs with
    | [w0, w1, w2, w3], _ => exact ⟨w0, w1, w2, w3, rfl⟩
  have hw := fun d (hd : d ∈ tables_1) => atoms_spec (ws := Jvm.Cond.code x code maxLocals ret :: tables_1) hat d (List.mem_cons_of_mem _ hd)
  have hfit : Fit s := fun {y c} hc i hi => by
    obtain ⟨ha, rfl⟩ := Array.getElem?_eq_some_iff.mp hc
    have q := List.all_eq_true.mp ((Array.all_eq_true_iff_forall_mem.mp hF) _ (Array.getElem_mem ha)) i (List.mem_range.mpr hi)
    simpa [Array.getElem?_eq_getElem hi] using q
  obtain ⟨i0, ei0⟩ := is_v ha0
  obtain rfl : w0 = (.int i0) := Option.some.inj ei0
  obtain ⟨i1, ei1⟩ := is_v ha1
  obtain rfl : w1 = (.int i1) := Option.some.inj ei1
  obtain ⟨i2, ei2⟩ := is_v ha2
  obtain rfl : w2 = (.int i2) := Option.some.inj ei2
  obtain ⟨i3, ei3⟩ := is_v hg3
  obtain rfl : w3 = (.int i3) := Option.some.inj ei3
  obtain ⟨hsets, hown0⟩ := atoms_of _ (rest_1_c_eq ▸ (show rest_1_c.before _ s = true from hrest))
  have s3 := Cond.before_iff.mp (hsets _ (List.mem_of_getElem? (i := 3) rfl))
  have SH := Sta.start (own_eqI s3) (Or.inl (hsets _ (List.mem_of_getElem? (i := 1) rfl)))
  have s5 := Cond.before_iff.mp (hsets _ (List.mem_of_getElem? (i := 5) rfl))
  obtain ⟨wc, evc⟩ := exa_v s5
  have SC := Sta.start evc (Or.inr ⟨hw _ (List.mem_of_getElem? (i := 8) rfl), hsets _ (List.mem_of_getElem? (i := 2) rfl)⟩)
  have AC := Exa.start evc s5
  have IC := own_IC_start (fun idx => evc) (Cond.before_iff.mp (hsets _ (List.mem_of_getElem? (i := 4) rfl))) (own_eqI (Cond.before_iff.mp (hsets _ (List.mem_of_getElem? (i := 6) rfl)))) (Cond.before_iff.mp (hsets _ (List.mem_of_getElem? (i := 7) rfl)))
  obtain ⟨n, o, h1, h2, h3, _, L, rfl, ⟨hv, N⟩, hq⟩ := rm_law l s _ hw tables_1 i0 i1 i2 i3 wc s.heap s.heap.size (Nat.le_refl _) SH SC AC IC p e ha hc hk s m _ below hf ((Spec.applies_iff_loose hf).mp happ).1 ⟨rfl, State.Warmed39.refl s, rfl⟩ trivial
  rw [own_plain] at hv
  subst hv
  refine ⟨n, _, h1, h2, h3, hpost _ _ _ _ _ _ ⟨Cond.after_iff.mpr rfl, Cond.after_iff.mpr (eq_i res_at (Term.int_eval (1)) rfl), trivial⟩ ⟨hq.1, hq.2.1, (hq.2.2.sift fun y hy => Or.inr (N y hy)).mono (by decide) (by decide)⟩⟩
theorem main_1_1 : Claimed_1_1 := comes_1 fun _ _ _ _ _ _ h hF => ⟨h.1, hF⟩
theorem main_1_2 : Claimed_1_2 := comes_1 fun _ _ _ _ _ _ h hF => ⟨h.2.1, hF⟩
end Jvm.Pilot.@@N@@
namespace Jvm.Pilot.@@N@@
open Jvm Jvm.ClassFile Sem Op Lib Jvm.Free Jvm.Stand Jvm.Pilot.@@N@@.Jvm.D
/-! MADE BY PROGRAM (witnessworld.py) out of the Statement's table words and the real class files: 17 classes; the members and pool entries that the words name. The judged class is class 1, her method 1. -/
namespace start1
open Jvm.ClassFile
def u (s : String) : CpInfo := .utf8 (stringToUtf16 s)
/-- a pool by its gaps: so many unusable entries, then the entry; so many at the end -/
def gap : Nat → List CpInfo → List CpInfo
  | 0, r => r
  | n + 1, r => .unusable :: gap n r
def poolList (es : List (Nat × CpInfo)) (last : Nat) : List CpInfo := es.foldr (fun e r => gap e.1 (e.2 :: r)) (gap last [])
def pool (es : List (Nat × CpInfo)) (last : Nat) : Array CpInfo := ⟨poolList es last⟩
def fileOf (pool : Array CpInfo) (this : Nat) (attrs : Array Attribute := #[]) (ms : Array MethodInfo := #[]) (fl : Nat := 33) (sup : Nat := 0) (ifs : Array Nat := #[]) (fds : Array FieldInfo := #[]) : ClassFile where
  minorVersion := 0
  majorVersion := 65
  constantPool := pool
  accessFlags := fl
  thisClass := this
  superClass := sup
  interfaces := ifs
  fields := fds
  methods := ms
  attributes := attrs
def plain (name : String) (sup : Option ClassId) : Class where
  name := name
  kind := .ordinary
  loader := none
  accessFlags := 33
  super := sup
  interfaces := #[]
  cf := none
  fields := #[]
  methods := #[]
  instanceTypes := #[]
  staticTypes := #[]
  resolved := #[]
  callSites := []
  init := .initialized
  statics := none
  mirror := none

def pool0 : Array CpInfo := pool [(5, u "<init>"), (0, u "()V"), (1, .class_ 10), (1, u "java/lang/Object")] 113

def k0c0 : Code := { maxStack := 0, maxLocals := 1, code := object_method_1_code, exceptionTable := #[], attributes := #[] }
def k0m0 : Method := { name := "<init>", desc := "()V", sig := { parameters := [], returnType := none }, accessFlags := 1, code := some k0c0 }
/-- java/lang/Object -/
def k0 : Class := { plain "java/lang/Object" none with
  accessFlags := 33
  interfaces := #[]
  cf := some (fileOf pool0 8 #[] #[{ accessFlags := 1, nameIndex := 5, descriptorIndex := 6, attributes := #[] }] 33 0 #[] #[])
  fields := #[]
  methods := #[k0m0]
  instanceTypes := #[]
  staticTypes := #[]
  resolved := Array.replicate 124 none
  statics := none }

def pool1 : Array CpInfo := pool [(2, .class_ 4), (1, u "java/lang/Object"), (0, u "<init>"), (0, u "()V"), (0, .class_ 8), (0, u "com/example/leanbough/leanbough/LlrbTreeMap$Node"), (0, .methodref 10 11), (0, .class_ 12), (0, .nameAndType 13 14), (0, u "java/lang/Integer"), (0, u "valueOf"), (0, u "(I)Ljava/lang/Integer;"), (0, .methodref 7 16), (0, .nameAndType 5 17), (0, u "(Ljava/lang/Object;Ljava/lang/Object;)V"), (0, .methodref 7 19), (0, .nameAndType 20 21), (0, u "red"), (0, u "()Z"), (0, .integer 2147483647), (0, .methodref 7 24), (0, .nameAndType 25 26), (0, u "setLeftCount"), (0, u "(I)V"), (0, .methodref 7 28), (0, .nameAndType 29 30), (0, u "setRed"), (0, u "(Z)V"), (0, .methodref 7 32), (0, .nameAndType 33 26), (0, u "addToLeftCount"), (0, .methodref 7 35), (0, .nameAndType 36 37), (0, u "leftCount"), (0, u "()I"), (0, .class_ 39), (0, u "com/example/leanbough/leanbough/NodeRedPinLaw"), (2, u "law"), (0, u "(IIII)Z")] 7

def k1m0 : Method := { name := "<init>", desc := "()V", sig := { parameters := [], returnType := none }, accessFlags := 1, code := none }
def k1c1 : Code := { maxStack := 4, maxLocals := 15, code := code, exceptionTable := #[], attributes := #[] }
def k1m1 : Method := { name := "law", desc := "(IIII)Z", sig := { parameters := [.int, .int, .int, .int], returnType := some .boolean }, accessFlags := 9, code := some k1c1 }
/-- com/example/leanbough/leanbough/NodeRedPinLaw -/
def k1 : Class := { plain "com/example/leanbough/leanbough/NodeRedPinLaw" (some 0) with
  accessFlags := 49
  interfaces := #[]
  cf := some (fileOf pool1 38 #[] #[{ accessFlags := 1, nameIndex := 5, descriptorIndex := 6, attributes := #[] }, { accessFlags := 9, nameIndex := 42, descriptorIndex := 43, attributes := #[] }] 49 2 #[] #[])
  fields := #[]
  methods := #[k1m0, k1m1]
  instanceTypes := #[]
  staticTypes := #[]
  resolved := Array.replicate 51 none
  statics := none }

def pool2 : Array CpInfo := pool [(23, .class_ 25), (1, u "java/util/Map$Entry"), (6, .class_ 34), (1, u "java/util/Map"), (34, .class_ 70), (0, u "java/lang/Object")] 107

/-- java/util/Map$Entry -/
def k2 : Class := { plain "java/util/Map$Entry" (some 0) with
  accessFlags := 1537
  interfaces := #[]
  cf := some (fileOf pool2 23 #[.nestHost 32] #[] 1537 69 #[] #[])
  fields := #[]
  methods := #[]
  instanceTypes := #[]
  staticTypes := #[]
  resolved := Array.replicate 178 none
  statics := none }

def pool3 : Array CpInfo := pool [(3, .methodref 4 5), (0, .class_ 6), (0, .nameAndType 7 8), (0, u "java/lang/Object"), (0, u "<init>"), (0, u "()V"), (0, .fieldref 10 11), (0, .class_ 12), (0, .nameAndType 13 14), (0, u "com/example/leanbough/leanbough/LlrbTreeMap$Node"), (0, u "key"), (0, u "Ljava/lang/Object;"), (0, .fieldref 10 16), (0, .nameAndType 17 14), (0, u "value"), (0, .integer 2147483648), (0, .fieldref 10 20), (0, .nameAndType 21 22), (0, u "colourAndLeftCount"), (0, u "I"), (0, .integer 2147483647), (0, .class_ 25), (0, u "java/util/Map$Entry"), (27, u "RED"), (4, u "left"), (0, u "Lcom/example/leanbough/leanbough/LlrbTreeMap$Node;"), (1, u "right"), (0, u "(Ljava/lang/Object;Ljava/lang/Object;)V"), (3, u "red"), (0, u "()Z"), (1, u "setRed"), (0, u "(Z)V"), (0, u "leftCount"), (0, u "()I"), (0, u "setLeftCount"), (0, u "(I)V"), (0, u "addToLeftCount"), (12, .class_ 89), (0, u "com/example/leanbough/leanbough/LlrbTreeMap")] 19

def k3c0 : Code := { maxStack := 2, maxLocals := 3, code := prog_4_method_1_code, exceptionTable := #[], attributes := #[] }
def k3m0 : Method := { name := "<init>", desc := "(Ljava/lang/Object;Ljava/lang/Object;)V", sig := { parameters := [(.object "java/lang/Object"), (.object "java/lang/Object")], returnType := none }, accessFlags := 0, code := some k3c0 }
def k3c1 : Code := { maxStack := 1, maxLocals := 1, code := prog_4_method_2_code, exceptionTable := #[], attributes := #[] }
def k3m1 : Method := { name := "red", desc := "()Z", sig := { parameters := [], returnType := some .boolean }, accessFlags := 0, code := some k3c1 }
def k3c2 : Code := { maxStack := 3, maxLocals := 2, code := prog_4_method_3_code, exceptionTable := #[], attributes := #[] }
def k3m2 : Method := { name := "setRed", desc := "(Z)V", sig := { parameters := [.boolean], returnType := none }, accessFlags := 0, code := some k3c2 }
def k3c3 : Code := { maxStack := 2, maxLocals := 1, code := prog_4_method_4_code, exceptionTable := #[], attributes := #[] }
def k3m3 : Method := { name := "leftCount", desc := "()I", sig := { parameters := [], returnType := some .int }, accessFlags := 0, code := some k3c3 }
def k3c4 : Code := { maxStack := 3, maxLocals := 2, code := prog_4_method_5_code, exceptionTable := #[], attributes := #[] }
def k3m4 : Method := { name := "setLeftCount", desc := "(I)V", sig := { parameters := [.int], returnType := none }, accessFlags := 0, code := some k3c4 }
def k3c5 : Code := { maxStack := 3, maxLocals := 2, code := prog_4_method_6_code, exceptionTable := #[], attributes := #[] }
def k3m5 : Method := { name := "addToLeftCount", desc := "(I)V", sig := { parameters := [.int], returnType := none }, accessFlags := 0, code := some k3c5 }
/-- com/example/leanbough/leanbough/LlrbTreeMap$Node -/
def k3 : Class := { plain "com/example/leanbough/leanbough/LlrbTreeMap$Node" (some 0) with
  accessFlags := 48
  interfaces := #[2]
  cf := some (fileOf pool3 10 #[.nestHost 88] #[{ accessFlags := 0, nameIndex := 7, descriptorIndex := 62, attributes := #[] }, { accessFlags := 0, nameIndex := 66, descriptorIndex := 67, attributes := #[] }, { accessFlags := 0, nameIndex := 69, descriptorIndex := 70, attributes := #[] }, { accessFlags := 0, nameIndex := 71, descriptorIndex := 72, attributes := #[] }, { accessFlags := 0, nameIndex := 73, descriptorIndex := 74, attributes := #[] }, { accessFlags := 0, nameIndex := 75, descriptorIndex := 74, attributes := #[] }] 48 4 #[24] #[{ accessFlags := 26, nameIndex := 53, descriptorIndex := 22, attributes := #[] }, { accessFlags := 16, nameIndex := 13, descriptorIndex := 14, attributes := #[] }, { accessFlags := 0, nameIndex := 17, descriptorIndex := 14, attributes := #[] }, { accessFlags := 0, nameIndex := 58, descriptorIndex := 59, attributes := #[] }, { accessFlags := 0, nameIndex := 61, descriptorIndex := 59, attributes := #[] }, { accessFlags := 2, nameIndex := 21, descriptorIndex := 22, attributes := #[] }])
  fields := #[{ name := "RED", type := .int, accessFlags := 26, slot := 0, constantValue := 0 }, { name := "key", type := (.object "java/lang/Object"), accessFlags := 16, slot := 0, constantValue := 0 }, { name := "value", type := (.object "java/lang/Object"), accessFlags := 0, slot := 1, constantValue := 0 }, { name := "left", type := (.object "com/example/leanbough/leanbough/LlrbTreeMap$Node"), accessFlags := 0, slot := 2, constantValue := 0 }, { name := "right", type := (.object "com/example/leanbough/leanbough/LlrbTreeMap$Node"), accessFlags := 0, slot := 3, constantValue := 0 }, { name := "colourAndLeftCount", type := .int, accessFlags := 2, slot := 4, constantValue := 0 }]
  methods := #[k3m0, k3m1, k3m2, k3m3, k3m4, k3m5]
  instanceTypes := #[(.object "java/lang/Object"), (.object "java/lang/Object"), (.object "com/example/leanbough/leanbough/LlrbTreeMap$Node"), (.object "com/example/leanbough/leanbough/LlrbTreeMap$Node"), .int]
  staticTypes := #[.int]
  resolved := Array.replicate 109 none
  statics := none }

def pool4 : Array CpInfo := pool [(1, .class_ 2), (0, u "java/io/Serializable"), (0, .class_ 4), (0, u "java/lang/Object")] 2

/-- java/io/Serializable -/
def k4 : Class := { plain "java/io/Serializable" (some 0) with
  accessFlags := 1537
  interfaces := #[]
  cf := some (fileOf pool4 1 #[] #[] 1537 3 #[] #[])
  fields := #[]
  methods := #[]
  instanceTypes := #[]
  staticTypes := #[]
  resolved := Array.replicate 7 none
  statics := none }

def pool5 : Array CpInfo := pool [(1, .methodref 2 3), (0, .class_ 4), (0, .nameAndType 5 6), (0, u "java/lang/Object"), (0, u "<init>"), (0, u "()V"), (1, .class_ 10), (1, u "java/lang/Number"), (2, .class_ 14), (0, u "java/io/Serializable"), (0, u "serialVersionUID"), (0, u "J")] 20

def k5c0 : Code := { maxStack := 1, maxLocals := 1, code := jdk_18_method_1_code, exceptionTable := #[], attributes := #[] }
def k5m0 : Method := { name := "<init>", desc := "()V", sig := { parameters := [], returnType := none }, accessFlags := 1, code := some k5c0 }
/-- java/lang/Number -/
def k5 : Class := { plain "java/lang/Number" (some 0) with
  accessFlags := 1057
  interfaces := #[4]
  cf := some (fileOf pool5 8 #[] #[{ accessFlags := 1, nameIndex := 5, descriptorIndex := 6, attributes := #[] }] 1057 2 #[13] #[{ accessFlags := 26, nameIndex := 15, descriptorIndex := 16, attributes := #[] }])
  fields := #[{ name := "serialVersionUID", type := .long, accessFlags := 26, slot := 0, constantValue := 0 }]
  methods := #[k5m0]
  instanceTypes := #[]
  staticTypes := #[.long]
  resolved := Array.replicate 37 none
  statics := none }

def pool6 : Array CpInfo := pool [(1, .class_ 2), (0, u "java/lang/Comparable"), (0, .class_ 4), (0, u "java/lang/Object")] 7

/-- java/lang/Comparable -/
def k6 : Class := { plain "java/lang/Comparable" (some 0) with
  accessFlags := 1537
  interfaces := #[]
  cf := some (fileOf pool6 1 #[] #[] 1537 3 #[] #[])
  fields := #[]
  methods := #[]
  instanceTypes := #[]
  staticTypes := #[]
  resolved := Array.replicate 12 none
  statics := none }

def pool7 : Array CpInfo := pool [(1, .class_ 2), (0, u "java/lang/constant/Constable"), (0, .class_ 4), (0, u "java/lang/Object")] 6

/-- java/lang/constant/Constable -/
def k7 : Class := { plain "java/lang/constant/Constable" (some 0) with
  accessFlags := 1537
  interfaces := #[]
  cf := some (fileOf pool7 1 #[] #[] 1537 3 #[] #[])
  fields := #[]
  methods := #[]
  instanceTypes := #[]
  staticTypes := #[]
  resolved := Array.replicate 11 none
  statics := none }

def pool8 : Array CpInfo := pool [(1, .class_ 2), (0, u "java/lang/constant/ConstantDesc"), (0, .class_ 4), (0, u "java/lang/Object")] 32

/-- java/lang/constant/ConstantDesc -/
def k8 : Class := { plain "java/lang/constant/ConstantDesc" (some 0) with
  accessFlags := 1537
  interfaces := #[]
  cf := some (fileOf pool8 1 #[] #[] 1537 3 #[] #[])
  fields := #[]
  methods := #[]
  instanceTypes := #[]
  staticTypes := #[]
  resolved := Array.replicate 37 none
  statics := none }

def pool9 : Array CpInfo := pool [(1, .class_ 2), (0, u "java/lang/Integer"), (16, u "digits"), (0, u "[C"), (46, u "<init>"), (17, u "DigitOnes"), (0, u "[B"), (2, u "DigitTens"), (10, .nameAndType 67 101), (0, u "()V"), (85, u "valueOf"), (0, u "(I)Ljava/lang/Integer;"), (0, .class_ 190), (0, u "java/lang/Integer$IntegerCache"), (0, .fieldref 189 192), (0, .nameAndType 193 194), (0, u "high"), (0, u "I"), (0, .fieldref 189 196), (0, .nameAndType 197 198), (0, u "cache"), (0, u "[Ljava/lang/Integer;"), (0, .methodref 1 200), (0, .nameAndType 67 201), (0, u "(I)V"), (0, .methodref 203 100), (0, .class_ 204), (0, u "java/lang/Number"), (0, .fieldref 1 206), (0, .nameAndType 207 194), (0, u "value"), (94, u "TYPE"), (0, u "Ljava/lang/Class;"), (0, .class_ 305), (0, u "java/lang/Comparable"), (0, .class_ 307), (0, u "java/lang/constant/Constable"), (0, .class_ 309), (0, u "java/lang/constant/ConstantDesc"), (0, u "MIN_VALUE"), (1, u "MAX_VALUE"), (3, u "SIZE"), (1, u "BYTES"), (1, u "serialVersionUID"), (0, u "J")] 131

def k9c0 : Code := { maxStack := 3, maxLocals := 1, code := jdk_33_method_22_code, exceptionTable := #[], attributes := #[] }
def k9m0 : Method := { name := "valueOf", desc := "(I)Ljava/lang/Integer;", sig := { parameters := [.int], returnType := some (.object "java/lang/Integer") }, accessFlags := 9, code := some k9c0 }
def k9c1 : Code := { maxStack := 2, maxLocals := 2, code := jdk_33_method_23_code, exceptionTable := #[], attributes := #[] }
def k9m1 : Method := { name := "<init>", desc := "(I)V", sig := { parameters := [.int], returnType := none }, accessFlags := 1, code := some k9c1 }
/-- java/lang/Integer -/
def k9 : Class := { plain "java/lang/Integer" (some 5) with
  accessFlags := 49
  interfaces := #[6, 7, 8]
  cf := some (fileOf pool9 1 #[.nestMembers #[189]] #[{ accessFlags := 9, nameIndex := 187, descriptorIndex := 188, attributes := #[] }, { accessFlags := 1, nameIndex := 67, descriptorIndex := 201, attributes := #[] }] 49 203 #[304, 306, 308] #[{ accessFlags := 25, nameIndex := 310, descriptorIndex := 194, attributes := #[] }, { accessFlags := 25, nameIndex := 312, descriptorIndex := 194, attributes := #[] }, { accessFlags := 25, nameIndex := 302, descriptorIndex := 303, attributes := #[] }, { accessFlags := 24, nameIndex := 19, descriptorIndex := 20, attributes := #[] }, { accessFlags := 24, nameIndex := 89, descriptorIndex := 86, attributes := #[] }, { accessFlags := 24, nameIndex := 85, descriptorIndex := 86, attributes := #[] }, { accessFlags := 18, nameIndex := 207, descriptorIndex := 194, attributes := #[] }, { accessFlags := 25, nameIndex := 316, descriptorIndex := 194, attributes := #[] }, { accessFlags := 25, nameIndex := 318, descriptorIndex := 194, attributes := #[] }, { accessFlags := 26, nameIndex := 320, descriptorIndex := 321, attributes := #[] }])
  fields := #[{ name := "MIN_VALUE", type := .int, accessFlags := 25, slot := 0, constantValue := 0 }, { name := "MAX_VALUE", type := .int, accessFlags := 25, slot := 1, constantValue := 0 }, { name := "TYPE", type := (.object "java/lang/Class"), accessFlags := 25, slot := 2, constantValue := 0 }, { name := "digits", type := (.array .char), accessFlags := 24, slot := 3, constantValue := 0 }, { name := "DigitTens", type := (.array .byte), accessFlags := 24, slot := 4, constantValue := 0 }, { name := "DigitOnes", type := (.array .byte), accessFlags := 24, slot := 5, constantValue := 0 }, { name := "value", type := .int, accessFlags := 18, slot := 0, constantValue := 0 }, { name := "SIZE", type := .int, accessFlags := 25, slot := 6, constantValue := 0 }, { name := "BYTES", type := .int, accessFlags := 25, slot := 7, constantValue := 0 }, { name := "serialVersionUID", type := .long, accessFlags := 26, slot := 8, constantValue := 0 }]
  methods := #[k9m0, k9m1]
  instanceTypes := #[.int]
  staticTypes := #[.int, .int, (.object "java/lang/Class"), (.array .char), (.array .byte), (.array .byte), .int, .int, .long]
  resolved := Array.replicate 453 none
  statics := none }

def pool10 : Array CpInfo := pool [(2, .class_ 4), (1, u "java/lang/Object"), (0, u "<init>"), (0, u "()V"), (0, .class_ 8), (0, u "java/lang/Integer"), (7, .class_ 18), (1, u "java/lang/Integer$IntegerCache"), (0, u "$assertionsDisabled"), (0, u "Z"), (26, u "high"), (0, u "I"), (8, u "archivedCache"), (0, u "[Ljava/lang/Integer;"), (12, u "cache"), (0, u "low")] 27

def k10m0 : Method := { name := "<init>", desc := "()V", sig := { parameters := [], returnType := none }, accessFlags := 2, code := none }
/-- java/lang/Integer$IntegerCache -/
def k10 : Class := { plain "java/lang/Integer$IntegerCache" (some 0) with
  accessFlags := 48
  interfaces := #[]
  cf := some (fileOf pool10 16 #[.nestHost 7] #[{ accessFlags := 2, nameIndex := 5, descriptorIndex := 6, attributes := #[] }] 48 2 #[] #[{ accessFlags := 24, nameIndex := 72, descriptorIndex := 48, attributes := #[] }, { accessFlags := 24, nameIndex := 47, descriptorIndex := 48, attributes := #[] }, { accessFlags := 24, nameIndex := 71, descriptorIndex := 58, attributes := #[] }, { accessFlags := 8, nameIndex := 57, descriptorIndex := 58, attributes := #[] }, { accessFlags := 4120, nameIndex := 19, descriptorIndex := 20, attributes := #[] }])
  fields := #[{ name := "low", type := .int, accessFlags := 24, slot := 0, constantValue := 0 }, { name := "high", type := .int, accessFlags := 24, slot := 1, constantValue := 0 }, { name := "cache", type := (.array (.object "java/lang/Integer")), accessFlags := 24, slot := 2, constantValue := 0 }, { name := "archivedCache", type := (.array (.object "java/lang/Integer")), accessFlags := 8, slot := 3, constantValue := 0 }, { name := "$assertionsDisabled", type := .boolean, accessFlags := 4120, slot := 4, constantValue := 0 }]
  methods := #[k10m0]
  instanceTypes := #[]
  staticTypes := #[.int, .int, (.array (.object "java/lang/Integer")), (.array (.object "java/lang/Integer")), .boolean]
  resolved := Array.replicate 100 none
  statics := some 0 }

def pool11 : Array CpInfo := pool [(1, u "java/lang/Cloneable"), (0, .class_ 1), (0, u "java/lang/Object"), (0, .class_ 3)] 3

/-- java/lang/Cloneable -/
def k11 : Class := { plain "java/lang/Cloneable" (some 0) with
  accessFlags := 1537
  interfaces := #[]
  cf := some (fileOf pool11 2 #[] #[] 1537 4 #[] #[])
  fields := #[]
  methods := #[]
  instanceTypes := #[]
  staticTypes := #[]
  resolved := Array.replicate 8 none
  statics := none }

/-- the primitive byte -/
def k12 : Class := { plain "byte" none with kind := .primitive 'B', accessFlags := 0x411 }
/-- [B -/
def k13 : Class := { plain "[B" (some 0) with kind := .array 12 .byte, interfaces := #[11, 4], accessFlags := 1041 }

/-- the primitive int -/
def k14 : Class := { plain "int" none with kind := .primitive 'I', accessFlags := 0x411 }
/-- [I -/
def k15 : Class := { plain "[I" (some 0) with kind := .array 14 .int, interfaces := #[11, 4], accessFlags := 1041 }

/-- [Ljava/lang/Integer; -/
def k16 : Class := { plain "[Ljava/lang/Integer;" (some 0) with kind := .array 9 (.object "java/lang/Integer"), interfaces := #[11, 4], accessFlags := 1041 }

def heap : Heap := #[{ cls := 10, slots := #[.int 0, .int 127, .ref 1, .null, .int 0], vm := .statics 10 },
  { cls := 16, slots := #[.ref 2, .ref 3, .ref 4, .ref 5, .ref 6, .ref 7, .ref 8, .ref 9, .ref 10, .ref 11, .ref 12, .ref 13, .ref 14, .ref 15, .ref 16, .ref 17, .ref 18, .ref 19, .ref 20, .ref 21, .ref 22, .ref 23, .ref 24, .ref 25, .ref 26, .ref 27, .ref 28, .ref 29, .ref 30, .ref 31, .ref 32, .ref 33, .ref 34, .ref 35, .ref 36, .ref 37, .ref 38, .ref 39, .ref 40, .ref 41, .ref 42, .ref 43, .ref 44, .ref 45, .ref 46, .ref 47, .ref 48, .ref 49, .ref 50, .ref 51, .ref 52, .ref 53, .ref 54, .ref 55, .ref 56, .ref 57, .ref 58, .ref 59, .ref 60, .ref 61, .ref 62, .ref 63, .ref 64, .ref 65, .ref 66, .ref 67, .ref 68, .ref 69, .ref 70, .ref 71, .ref 72, .ref 73, .ref 74, .ref 75, .ref 76, .ref 77, .ref 78, .ref 79, .ref 80, .ref 81, .ref 82, .ref 83, .ref 84, .ref 85, .ref 86, .ref 87, .ref 88, .ref 89, .ref 90, .ref 91, .ref 92, .ref 93, .ref 94, .ref 95, .ref 96, .ref 97, .ref 98, .ref 99, .ref 100, .ref 101, .ref 102, .ref 103, .ref 104, .ref 105, .ref 106, .ref 107, .ref 108, .ref 109, .ref 110, .ref 111, .ref 112, .ref 113, .ref 114, .ref 115, .ref 116, .ref 117, .ref 118, .ref 119, .ref 120, .ref 121, .ref 122, .ref 123, .ref 124, .ref 125, .ref 126, .ref 127, .ref 128, .ref 129, .ref 130, .ref 131, .ref 132, .ref 133, .ref 134, .ref 135, .ref 136, .ref 137, .ref 138, .ref 139, .ref 140, .ref 141, .ref 142, .ref 143, .ref 144, .ref 145, .ref 146, .ref 147, .ref 148, .ref 149, .ref 150, .ref 151, .ref 152, .ref 153, .ref 154, .ref 155, .ref 156, .ref 157, .ref 158, .ref 159, .ref 160, .ref 161, .ref 162, .ref 163, .ref 164, .ref 165, .ref 166, .ref 167, .ref 168, .ref 169, .ref 170, .ref 171, .ref 172, .ref 173, .ref 174, .ref 175, .ref 176, .ref 177, .ref 178, .ref 179, .ref 180, .ref 181, .ref 182, .ref 183, .ref 184, .ref 185, .ref 186, .ref 187, .ref 188, .ref 189, .ref 190, .ref 191, .ref 192, .ref 193, .ref 194, .ref 195, .ref 196, .ref 197, .ref 198, .ref 199, .ref 200, .ref 201, .ref 202, .ref 203, .ref 204, .ref 205, .ref 206, .ref 207, .ref 208, .ref 209, .ref 210, .ref 211, .ref 212, .ref 213, .ref 214, .ref 215, .ref 216, .ref 217, .ref 218, .ref 219, .ref 220, .ref 221, .ref 222, .ref 223, .ref 224, .ref 225, .ref 226, .ref 227, .ref 228, .ref 229, .ref 230, .ref 231, .ref 232, .ref 233, .ref 234, .ref 235, .ref 236, .ref 237, .ref 238, .ref 239, .ref 240, .ref 241, .ref 242, .ref 243, .ref 244, .ref 245, .ref 246, .ref 247, .ref 248, .ref 249, .ref 250, .ref 251, .ref 252, .ref 253, .ref 254, .ref 255, .ref 256, .ref 257], vm := .none },
  { cls := 9, slots := #[.int (-128)], vm := .none },
  { cls := 9, slots := #[.int (-127)], vm := .none },
  { cls := 9, slots := #[.int (-126)], vm := .none },
  { cls := 9, slots := #[.int (-125)], vm := .none },
  { cls := 9, slots := #[.int (-124)], vm := .none },
  { cls := 9, slots := #[.int (-123)], vm := .none },
  { cls := 9, slots := #[.int (-122)], vm := .none },
  { cls := 9, slots := #[.int (-121)], vm := .none },
  { cls := 9, slots := #[.int (-120)], vm := .none },
  { cls := 9, slots := #[.int (-119)], vm := .none },
  { cls := 9, slots := #[.int (-118)], vm := .none },
  { cls := 9, slots := #[.int (-117)], vm := .none },
  { cls := 9, slots := #[.int (-116)], vm := .none },
  { cls := 9, slots := #[.int (-115)], vm := .none },
  { cls := 9, slots := #[.int (-114)], vm := .none },
  { cls := 9, slots := #[.int (-113)], vm := .none },
  { cls := 9, slots := #[.int (-112)], vm := .none },
  { cls := 9, slots := #[.int (-111)], vm := .none },
  { cls := 9, slots := #[.int (-110)], vm := .none },
  { cls := 9, slots := #[.int (-109)], vm := .none },
  { cls := 9, slots := #[.int (-108)], vm := .none },
  { cls := 9, slots := #[.int (-107)], vm := .none },
  { cls := 9, slots := #[.int (-106)], vm := .none },
  { cls := 9, slots := #[.int (-105)], vm := .none },
  { cls := 9, slots := #[.int (-104)], vm := .none },
  { cls := 9, slots := #[.int (-103)], vm := .none },
  { cls := 9, slots := #[.int (-102)], vm := .none },
  { cls := 9, slots := #[.int (-101)], vm := .none },
  { cls := 9, slots := #[.int (-100)], vm := .none },
  { cls := 9, slots := #[.int (-99)], vm := .none },
  { cls := 9, slots := #[.int (-98)], vm := .none },
  { cls := 9, slots := #[.int (-97)], vm := .none },
  { cls := 9, slots := #[.int (-96)], vm := .none },
  { cls := 9, slots := #[.int (-95)], vm := .none },
  { cls := 9, slots := #[.int (-94)], vm := .none },
  { cls := 9, slots := #[.int (-93)], vm := .none },
  { cls := 9, slots := #[.int (-92)], vm := .none },
  { cls := 9, slots := #[.int (-91)], vm := .none },
  { cls := 9, slots := #[.int (-90)], vm := .none },
  { cls := 9, slots := #[.int (-89)], vm := .none },
  { cls := 9, slots := #[.int (-88)], vm := .none },
  { cls := 9, slots := #[.int (-87)], vm := .none },
  { cls := 9, slots := #[.int (-86)], vm := .none },
  { cls := 9, slots := #[.int (-85)], vm := .none },
  { cls := 9, slots := #[.int (-84)], vm := .none },
  { cls := 9, slots := #[.int (-83)], vm := .none },
  { cls := 9, slots := #[.int (-82)], vm := .none },
  { cls := 9, slots := #[.int (-81)], vm := .none },
  { cls := 9, slots := #[.int (-80)], vm := .none },
  { cls := 9, slots := #[.int (-79)], vm := .none },
  { cls := 9, slots := #[.int (-78)], vm := .none },
  { cls := 9, slots := #[.int (-77)], vm := .none },
  { cls := 9, slots := #[.int (-76)], vm := .none },
  { cls := 9, slots := #[.int (-75)], vm := .none },
  { cls := 9, slots := #[.int (-74)], vm := .none },
  { cls := 9, slots := #[.int (-73)], vm := .none },
  { cls := 9, slots := #[.int (-72)], vm := .none },
  { cls := 9, slots := #[.int (-71)], vm := .none },
  { cls := 9, slots := #[.int (-70)], vm := .none },
  { cls := 9, slots := #[.int (-69)], vm := .none },
  { cls := 9, slots := #[.int (-68)], vm := .none },
  { cls := 9, slots := #[.int (-67)], vm := .none },
  { cls := 9, slots := #[.int (-66)], vm := .none },
  { cls := 9, slots := #[.int (-65)], vm := .none },
  { cls := 9, slots := #[.int (-64)], vm := .none },
  { cls := 9, slots := #[.int (-63)], vm := .none },
  { cls := 9, slots := #[.int (-62)], vm := .none },
  { cls := 9, slots := #[.int (-61)], vm := .none },
  { cls := 9, slots := #[.int (-60)], vm := .none },
  { cls := 9, slots := #[.int (-59)], vm := .none },
  { cls := 9, slots := #[.int (-58)], vm := .none },
  { cls := 9, slots := #[.int (-57)], vm := .none },
  { cls := 9, slots := #[.int (-56)], vm := .none },
  { cls := 9, slots := #[.int (-55)], vm := .none },
  { cls := 9, slots := #[.int (-54)], vm := .none },
  { cls := 9, slots := #[.int (-53)], vm := .none },
  { cls := 9, slots := #[.int (-52)], vm := .none },
  { cls := 9, slots := #[.int (-51)], vm := .none },
  { cls := 9, slots := #[.int (-50)], vm := .none },
  { cls := 9, slots := #[.int (-49)], vm := .none },
  { cls := 9, slots := #[.int (-48)], vm := .none },
  { cls := 9, slots := #[.int (-47)], vm := .none },
  { cls := 9, slots := #[.int (-46)], vm := .none },
  { cls := 9, slots := #[.int (-45)], vm := .none },
  { cls := 9, slots := #[.int (-44)], vm := .none },
  { cls := 9, slots := #[.int (-43)], vm := .none },
  { cls := 9, slots := #[.int (-42)], vm := .none },
  { cls := 9, slots := #[.int (-41)], vm := .none },
  { cls := 9, slots := #[.int (-40)], vm := .none },
  { cls := 9, slots := #[.int (-39)], vm := .none },
  { cls := 9, slots := #[.int (-38)], vm := .none },
  { cls := 9, slots := #[.int (-37)], vm := .none },
  { cls := 9, slots := #[.int (-36)], vm := .none },
  { cls := 9, slots := #[.int (-35)], vm := .none },
  { cls := 9, slots := #[.int (-34)], vm := .none },
  { cls := 9, slots := #[.int (-33)], vm := .none },
  { cls := 9, slots := #[.int (-32)], vm := .none },
  { cls := 9, slots := #[.int (-31)], vm := .none },
  { cls := 9, slots := #[.int (-30)], vm := .none },
  { cls := 9, slots := #[.int (-29)], vm := .none },
  { cls := 9, slots := #[.int (-28)], vm := .none },
  { cls := 9, slots := #[.int (-27)], vm := .none },
  { cls := 9, slots := #[.int (-26)], vm := .none },
  { cls := 9, slots := #[.int (-25)], vm := .none },
  { cls := 9, slots := #[.int (-24)], vm := .none },
  { cls := 9, slots := #[.int (-23)], vm := .none },
  { cls := 9, slots := #[.int (-22)], vm := .none },
  { cls := 9, slots := #[.int (-21)], vm := .none },
  { cls := 9, slots := #[.int (-20)], vm := .none },
  { cls := 9, slots := #[.int (-19)], vm := .none },
  { cls := 9, slots := #[.int (-18)], vm := .none },
  { cls := 9, slots := #[.int (-17)], vm := .none },
  { cls := 9, slots := #[.int (-16)], vm := .none },
  { cls := 9, slots := #[.int (-15)], vm := .none },
  { cls := 9, slots := #[.int (-14)], vm := .none },
  { cls := 9, slots := #[.int (-13)], vm := .none },
  { cls := 9, slots := #[.int (-12)], vm := .none },
  { cls := 9, slots := #[.int (-11)], vm := .none },
  { cls := 9, slots := #[.int (-10)], vm := .none },
  { cls := 9, slots := #[.int (-9)], vm := .none },
  { cls := 9, slots := #[.int (-8)], vm := .none },
  { cls := 9, slots := #[.int (-7)], vm := .none },
  { cls := 9, slots := #[.int (-6)], vm := .none },
  { cls := 9, slots := #[.int (-5)], vm := .none },
  { cls := 9, slots := #[.int (-4)], vm := .none },
  { cls := 9, slots := #[.int (-3)], vm := .none },
  { cls := 9, slots := #[.int (-2)], vm := .none },
  { cls := 9, slots := #[.int (-1)], vm := .none },
  { cls := 9, slots := #[.int (0)], vm := .none },
  { cls := 9, slots := #[.int (1)], vm := .none },
  { cls := 9, slots := #[.int (2)], vm := .none },
  { cls := 9, slots := #[.int (3)], vm := .none },
  { cls := 9, slots := #[.int (4)], vm := .none },
  { cls := 9, slots := #[.int (5)], vm := .none },
  { cls := 9, slots := #[.int (6)], vm := .none },
  { cls := 9, slots := #[.int (7)], vm := .none },
  { cls := 9, slots := #[.int (8)], vm := .none },
  { cls := 9, slots := #[.int (9)], vm := .none },
  { cls := 9, slots := #[.int (10)], vm := .none },
  { cls := 9, slots := #[.int (11)], vm := .none },
  { cls := 9, slots := #[.int (12)], vm := .none },
  { cls := 9, slots := #[.int (13)], vm := .none },
  { cls := 9, slots := #[.int (14)], vm := .none },
  { cls := 9, slots := #[.int (15)], vm := .none },
  { cls := 9, slots := #[.int (16)], vm := .none },
  { cls := 9, slots := #[.int (17)], vm := .none },
  { cls := 9, slots := #[.int (18)], vm := .none },
  { cls := 9, slots := #[.int (19)], vm := .none },
  { cls := 9, slots := #[.int (20)], vm := .none },
  { cls := 9, slots := #[.int (21)], vm := .none },
  { cls := 9, slots := #[.int (22)], vm := .none },
  { cls := 9, slots := #[.int (23)], vm := .none },
  { cls := 9, slots := #[.int (24)], vm := .none },
  { cls := 9, slots := #[.int (25)], vm := .none },
  { cls := 9, slots := #[.int (26)], vm := .none },
  { cls := 9, slots := #[.int (27)], vm := .none },
  { cls := 9, slots := #[.int (28)], vm := .none },
  { cls := 9, slots := #[.int (29)], vm := .none },
  { cls := 9, slots := #[.int (30)], vm := .none },
  { cls := 9, slots := #[.int (31)], vm := .none },
  { cls := 9, slots := #[.int (32)], vm := .none },
  { cls := 9, slots := #[.int (33)], vm := .none },
  { cls := 9, slots := #[.int (34)], vm := .none },
  { cls := 9, slots := #[.int (35)], vm := .none },
  { cls := 9, slots := #[.int (36)], vm := .none },
  { cls := 9, slots := #[.int (37)], vm := .none },
  { cls := 9, slots := #[.int (38)], vm := .none },
  { cls := 9, slots := #[.int (39)], vm := .none },
  { cls := 9, slots := #[.int (40)], vm := .none },
  { cls := 9, slots := #[.int (41)], vm := .none },
  { cls := 9, slots := #[.int (42)], vm := .none },
  { cls := 9, slots := #[.int (43)], vm := .none },
  { cls := 9, slots := #[.int (44)], vm := .none },
  { cls := 9, slots := #[.int (45)], vm := .none },
  { cls := 9, slots := #[.int (46)], vm := .none },
  { cls := 9, slots := #[.int (47)], vm := .none },
  { cls := 9, slots := #[.int (48)], vm := .none },
  { cls := 9, slots := #[.int (49)], vm := .none },
  { cls := 9, slots := #[.int (50)], vm := .none },
  { cls := 9, slots := #[.int (51)], vm := .none },
  { cls := 9, slots := #[.int (52)], vm := .none },
  { cls := 9, slots := #[.int (53)], vm := .none },
  { cls := 9, slots := #[.int (54)], vm := .none },
  { cls := 9, slots := #[.int (55)], vm := .none },
  { cls := 9, slots := #[.int (56)], vm := .none },
  { cls := 9, slots := #[.int (57)], vm := .none },
  { cls := 9, slots := #[.int (58)], vm := .none },
  { cls := 9, slots := #[.int (59)], vm := .none },
  { cls := 9, slots := #[.int (60)], vm := .none },
  { cls := 9, slots := #[.int (61)], vm := .none },
  { cls := 9, slots := #[.int (62)], vm := .none },
  { cls := 9, slots := #[.int (63)], vm := .none },
  { cls := 9, slots := #[.int (64)], vm := .none },
  { cls := 9, slots := #[.int (65)], vm := .none },
  { cls := 9, slots := #[.int (66)], vm := .none },
  { cls := 9, slots := #[.int (67)], vm := .none },
  { cls := 9, slots := #[.int (68)], vm := .none },
  { cls := 9, slots := #[.int (69)], vm := .none },
  { cls := 9, slots := #[.int (70)], vm := .none },
  { cls := 9, slots := #[.int (71)], vm := .none },
  { cls := 9, slots := #[.int (72)], vm := .none },
  { cls := 9, slots := #[.int (73)], vm := .none },
  { cls := 9, slots := #[.int (74)], vm := .none },
  { cls := 9, slots := #[.int (75)], vm := .none },
  { cls := 9, slots := #[.int (76)], vm := .none },
  { cls := 9, slots := #[.int (77)], vm := .none },
  { cls := 9, slots := #[.int (78)], vm := .none },
  { cls := 9, slots := #[.int (79)], vm := .none },
  { cls := 9, slots := #[.int (80)], vm := .none },
  { cls := 9, slots := #[.int (81)], vm := .none },
  { cls := 9, slots := #[.int (82)], vm := .none },
  { cls := 9, slots := #[.int (83)], vm := .none },
  { cls := 9, slots := #[.int (84)], vm := .none },
  { cls := 9, slots := #[.int (85)], vm := .none },
  { cls := 9, slots := #[.int (86)], vm := .none },
  { cls := 9, slots := #[.int (87)], vm := .none },
  { cls := 9, slots := #[.int (88)], vm := .none },
  { cls := 9, slots := #[.int (89)], vm := .none },
  { cls := 9, slots := #[.int (90)], vm := .none },
  { cls := 9, slots := #[.int (91)], vm := .none },
  { cls := 9, slots := #[.int (92)], vm := .none },
  { cls := 9, slots := #[.int (93)], vm := .none },
  { cls := 9, slots := #[.int (94)], vm := .none },
  { cls := 9, slots := #[.int (95)], vm := .none },
  { cls := 9, slots := #[.int (96)], vm := .none },
  { cls := 9, slots := #[.int (97)], vm := .none },
  { cls := 9, slots := #[.int (98)], vm := .none },
  { cls := 9, slots := #[.int (99)], vm := .none },
  { cls := 9, slots := #[.int (100)], vm := .none },
  { cls := 9, slots := #[.int (101)], vm := .none },
  { cls := 9, slots := #[.int (102)], vm := .none },
  { cls := 9, slots := #[.int (103)], vm := .none },
  { cls := 9, slots := #[.int (104)], vm := .none },
  { cls := 9, slots := #[.int (105)], vm := .none },
  { cls := 9, slots := #[.int (106)], vm := .none },
  { cls := 9, slots := #[.int (107)], vm := .none },
  { cls := 9, slots := #[.int (108)], vm := .none },
  { cls := 9, slots := #[.int (109)], vm := .none },
  { cls := 9, slots := #[.int (110)], vm := .none },
  { cls := 9, slots := #[.int (111)], vm := .none },
  { cls := 9, slots := #[.int (112)], vm := .none },
  { cls := 9, slots := #[.int (113)], vm := .none },
  { cls := 9, slots := #[.int (114)], vm := .none },
  { cls := 9, slots := #[.int (115)], vm := .none },
  { cls := 9, slots := #[.int (116)], vm := .none },
  { cls := 9, slots := #[.int (117)], vm := .none },
  { cls := 9, slots := #[.int (118)], vm := .none },
  { cls := 9, slots := #[.int (119)], vm := .none },
  { cls := 9, slots := #[.int (120)], vm := .none },
  { cls := 9, slots := #[.int (121)], vm := .none },
  { cls := 9, slots := #[.int (122)], vm := .none },
  { cls := 9, slots := #[.int (123)], vm := .none },
  { cls := 9, slots := #[.int (124)], vm := .none },
  { cls := 9, slots := #[.int (125)], vm := .none },
  { cls := 9, slots := #[.int (126)], vm := .none },
  { cls := 9, slots := #[.int (127)], vm := .none }]
def classes : Array Class := #[k0, k1, k2, k3, k4, k5, k6, k7, k8, k9, k10, k11, k12, k13, k14, k15, k16]
def interned : List (Array UInt16 × Addr) := []
def slotsUsed : Nat := 517
def theMethod : MethodId := ⟨1, 1⟩
def args0 : Array Value := #[.int 5, .int 1, .int 7, .int 9]
def aboutOver (below : List Frame) : State where
  vm := { classes := classes, interned := interned.toArray }
  heap := heap
  slotsUsed := slotsUsed
  threads := #[{ frames := .invoking theMethod args0 :: below }]
def below0 : List Frame := [.native { method := ⟨0, 0⟩, args := #[] }]
def about1 : State := aboutOver below0
def p0 : Program := .bare "" "" ""
def e0 : Env := launch0.env 0 0 0
theorem w_frames : about1.frames = Frame.invoking theMethod args0 :: below0 := rfl
set_option maxRecDepth 65536 in
theorem w_args : argsFit about1.vm theMethod args0 = true := by decide +kernel
set_option maxRecDepth 65536 in
theorem w_heap : heapFits about1 = true := by decide +kernel
set_option maxRecDepth 65536 in
theorem w_runnable : about1.curStatus? = some .runnable := by decide +kernel
set_option maxRecDepth 65536 in
theorem w_alone : about1.alone = true := by decide +kernel
set_option maxRecDepth 65536 in
theorem w_named : about1.methodNamed? x = some theMethod := by decide +kernel
set_option maxRecDepth 65536 in
theorem w_hears : about1.hears theMethod below0 = true := by decide +kernel
set_option maxRecDepth 65536 in
theorem w_ripe : about1.ripe theMethod args0 below0 = true := by decide +kernel
theorem w_running : about1.status = .running := rfl
set_option maxRecDepth 65536 in
theorem w_room : about1.hasRoom e0.platform room_1 = true :=
  launch0.hasRoom_least _ room_1 (by decide +kernel) (by decide +kernel) (by decide +kernel) (by decide +kernel) (by decide +kernel) (by decide +kernel)
theorem allAtoms_all (ts : List Jvm.Cond) (a : Array Jvm.Value) (st : Jvm.State) : (allAtoms ts).before a st = ts.all (fun c => c.before a st) := by
  induction ts with
  | nil => rfl
  | cons c t ih =>
    show (Jvm.Cond.and c (allAtoms t)).before a st = _
    rw [Jvm.Cond.before_and, ih, List.all_cons]
def words1 : List Jvm.Cond := Jvm.Cond.code x code maxLocals ret :: tables_1
/-- a 'code' word, met by the world's own term for the bytes: nothing is compared byte by byte -/
theorem code_word {y : MethodName} {bytes : ByteArray} {mx : Nat} {rt : Option FieldType} {a : Array Value} {s : State} {m : MethodId} {meth : Method} {c : Code} (h1 : s.methodNamed? y = some m) (h2 : s.vm.method? m = some meth) (h3 : meth.code = some c) (h4 : c.code = bytes)
    (h5 : (c.maxLocals == mx && c.exceptionTable.isEmpty && decide (c.maxStack ≤ mostOperands) && decide (meth.sig.returnType = rt) && !meth.locks && decide (parseMethodDescriptor y.desc = some meth.sig)) = true) : (Jvm.Cond.code y bytes mx rt).before a s = true := by
  simp only [Bool.and_eq_true, beq_iff_eq, Bool.not_eq_true', decide_eq_true_eq] at h5
  obtain ⟨⟨⟨⟨⟨g1, g2⟩, g3⟩, g4⟩, g5⟩, g6⟩ := h5
  simp [Cond.before, Cond.holds, Cond.value, h1, h2, h3, h4, g1, g2, g3, g4, g5, g6]
def isCode : Jvm.Cond → Bool
  | .code _ _ _ _ => true
  | _ => false
theorem all_split {L : List Jvm.Cond} {P : Jvm.Cond → Bool} (h1 : L.all (fun c => isCode c || P c) = true) (h2 : ∀ c ∈ L.filter isCode, P c = true) : L.all P = true := by
  refine List.all_eq_true.mpr fun c hc => ?_
  have h := List.all_eq_true.mp h1 c hc
  rcases Bool.eq_false_or_eq_true (isCode c) with hi | hi
  · exact h2 c (List.mem_filter.mpr ⟨hc, hi⟩)
  · simpa [hi] using h
set_option maxRecDepth 65536 in
theorem w_c0 : (Jvm.Cond.code x code maxLocals ret).before args0 about1 = true := code_word (m := ⟨1, 1⟩) (meth := k1m1) (c := k1c1) (by decide +kernel) rfl rfl rfl (by decide +kernel)
set_option maxRecDepth 65536 in
theorem w_c1 : (Jvm.Cond.code ({ cls := "java/lang/Integer", name := "valueOf", desc := "(I)Ljava/lang/Integer;" } : Jvm.MethodName) jdk_33_method_22_code (1 : Nat) (Option.some (Jvm.ClassFile.FieldType.object "java/lang/Integer"))).before args0 about1 = true := code_word (m := ⟨9, 0⟩) (meth := k9m0) (c := k9c0) (by decide +kernel) rfl rfl rfl (by decide +kernel)
set_option maxRecDepth 65536 in
theorem w_c2 : (Jvm.Cond.code ({ cls := "com/example/leanbough/leanbough/LlrbTreeMap$Node", name := "<init>", desc := "(Ljava/lang/Object;Ljava/lang/Object;)V" } : Jvm.MethodName) prog_4_method_1_code (3 : Nat) (Option.none : Option Jvm.ClassFile.FieldType)).before args0 about1 = true := code_word (m := ⟨3, 0⟩) (meth := k3m0) (c := k3c0) (by decide +kernel) rfl rfl rfl (by decide +kernel)
set_option maxRecDepth 65536 in
theorem w_c3 : (Jvm.Cond.code ({ cls := "java/lang/Object", name := "<init>", desc := "()V" } : Jvm.MethodName) object_method_1_code (1 : Nat) (Option.none : Option Jvm.ClassFile.FieldType)).before args0 about1 = true := code_word (m := ⟨0, 0⟩) (meth := k0m0) (c := k0c0) (by decide +kernel) rfl rfl rfl (by decide +kernel)
set_option maxRecDepth 65536 in
theorem w_c4 : (Jvm.Cond.code ({ cls := "com/example/leanbough/leanbough/LlrbTreeMap$Node", name := "red", desc := "()Z" } : Jvm.MethodName) prog_4_method_2_code (1 : Nat) (Option.some Jvm.ClassFile.FieldType.boolean)).before args0 about1 = true := code_word (m := ⟨3, 1⟩) (meth := k3m1) (c := k3c1) (by decide +kernel) rfl rfl rfl (by decide +kernel)
set_option maxRecDepth 65536 in
theorem w_c5 : (Jvm.Cond.code ({ cls := "com/example/leanbough/leanbough/LlrbTreeMap$Node", name := "setLeftCount", desc := "(I)V" } : Jvm.MethodName) prog_4_method_5_code (2 : Nat) (Option.none : Option Jvm.ClassFile.FieldType)).before args0 about1 = true := code_word (m := ⟨3, 4⟩) (meth := k3m4) (c := k3c4) (by decide +kernel) rfl rfl rfl (by decide +kernel)
set_option maxRecDepth 65536 in
theorem w_c6 : (Jvm.Cond.code ({ cls := "com/example/leanbough/leanbough/LlrbTreeMap$Node", name := "setRed", desc := "(Z)V" } : Jvm.MethodName) prog_4_method_3_code (2 : Nat) (Option.none : Option Jvm.ClassFile.FieldType)).before args0 about1 = true := code_word (m := ⟨3, 2⟩) (meth := k3m2) (c := k3c2) (by decide +kernel) rfl rfl rfl (by decide +kernel)
set_option maxRecDepth 65536 in
theorem w_c7 : (Jvm.Cond.code ({ cls := "com/example/leanbough/leanbough/LlrbTreeMap$Node", name := "addToLeftCount", desc := "(I)V" } : Jvm.MethodName) prog_4_method_6_code (2 : Nat) (Option.none : Option Jvm.ClassFile.FieldType)).before args0 about1 = true := code_word (m := ⟨3, 5⟩) (meth := k3m5) (c := k3c5) (by decide +kernel) rfl rfl rfl (by decide +kernel)
set_option maxRecDepth 65536 in
theorem w_c8 : (Jvm.Cond.code ({ cls := "com/example/leanbough/leanbough/LlrbTreeMap$Node", name := "leftCount", desc := "()I" } : Jvm.MethodName) prog_4_method_4_code (1 : Nat) (Option.some Jvm.ClassFile.FieldType.int)).before args0 about1 = true := code_word (m := ⟨3, 3⟩) (meth := k3m3) (c := k3c3) (by decide +kernel) rfl rfl rfl (by decide +kernel)
set_option maxRecDepth 65536 in
theorem w_c9 : (Jvm.Cond.code ({ cls := "java/lang/Integer", name := "<init>", desc := "(I)V" } : Jvm.MethodName) jdk_33_method_23_code (2 : Nat) (Option.none : Option Jvm.ClassFile.FieldType)).before args0 about1 = true := code_word (m := ⟨9, 1⟩) (meth := k9m1) (c := k9c1) (by decide +kernel) rfl rfl rfl (by decide +kernel)
set_option maxRecDepth 65536 in
theorem w_c10 : (Jvm.Cond.code ({ cls := "java/lang/Number", name := "<init>", desc := "()V" } : Jvm.MethodName) jdk_18_method_1_code (1 : Nat) (Option.none : Option Jvm.ClassFile.FieldType)).before args0 about1 = true := code_word (m := ⟨5, 0⟩) (meth := k5m0) (c := k5c0) (by decide +kernel) rfl rfl rfl (by decide +kernel)
def codes1 : List Jvm.Cond := [Jvm.Cond.code x code maxLocals ret, Jvm.Cond.code ({ cls := "java/lang/Integer", name := "valueOf", desc := "(I)Ljava/lang/Integer;" } : Jvm.MethodName) jdk_33_method_22_code (1 : Nat) (Option.some (Jvm.ClassFile.FieldType.object "java/lang/Integer")), Jvm.Cond.code ({ cls := "com/example/leanbough/leanbough/LlrbTreeMap$Node", name := "<init>", desc := "(Ljava/lang/Object;Ljava/lang/Object;)V" } : Jvm.MethodName) prog_4_method_1_code (3 : Nat) (Option.none : Option Jvm.ClassFile.FieldType), Jvm.Cond.code ({ cls := "java/lang/Object", name := "<init>", desc := "()V" } : Jvm.MethodName) object_method_1_code (1 : Nat) (Option.none : Option Jvm.ClassFile.FieldType), Jvm.Cond.code ({ cls := "com/example/leanbough/leanbough/LlrbTreeMap$Node", name := "red", desc := "()Z" } : Jvm.MethodName) prog_4_method_2_code (1 : Nat) (Option.some Jvm.ClassFile.FieldType.boolean), Jvm.Cond.code ({ cls := "com/example/leanbough/leanbough/LlrbTreeMap$Node", name := "setLeftCount", desc := "(I)V" } : Jvm.MethodName) prog_4_method_5_code (2 : Nat) (Option.none : Option Jvm.ClassFile.FieldType), Jvm.Cond.code ({ cls := "com/example/leanbough/leanbough/LlrbTreeMap$Node", name := "setRed", desc := "(Z)V" } : Jvm.MethodName) prog_4_method_3_code (2 : Nat) (Option.none : Option Jvm.ClassFile.FieldType), Jvm.Cond.code ({ cls := "com/example/leanbough/leanbough/LlrbTreeMap$Node", name := "addToLeftCount", desc := "(I)V" } : Jvm.MethodName) prog_4_method_6_code (2 : Nat) (Option.none : Option Jvm.ClassFile.FieldType), Jvm.Cond.code ({ cls := "com/example/leanbough/leanbough/LlrbTreeMap$Node", name := "leftCount", desc := "()I" } : Jvm.MethodName) prog_4_method_4_code (1 : Nat) (Option.some Jvm.ClassFile.FieldType.int), Jvm.Cond.code ({ cls := "java/lang/Integer", name := "<init>", desc := "(I)V" } : Jvm.MethodName) jdk_33_method_23_code (2 : Nat) (Option.none : Option Jvm.ClassFile.FieldType), Jvm.Cond.code ({ cls := "java/lang/Number", name := "<init>", desc := "()V" } : Jvm.MethodName) jdk_18_method_1_code (1 : Nat) (Option.none : Option Jvm.ClassFile.FieldType)]
set_option maxRecDepth 65536 in
theorem codes_eq : words1.filter isCode = codes1 := rfl
theorem w_codes : ∀ c ∈ words1.filter isCode, c.before args0 about1 = true := by
  rw [codes_eq]
  intro c hc
  simp only [codes1, List.mem_cons, List.not_mem_nil, or_false] at hc
  rcases hc with rfl | rfl | rfl | rfl | rfl | rfl | rfl | rfl | rfl | rfl | rfl
  · exact w_c0
  · exact w_c1
  · exact w_c2
  · exact w_c3
  · exact w_c4
  · exact w_c5
  · exact w_c6
  · exact w_c7
  · exact w_c8
  · exact w_c9
  · exact w_c10
set_option maxRecDepth 65536 in
theorem w_t1 : (words1.take 24).all (fun c => isCode c || c.before args0 about1) = true := by decide +kernel
set_option maxRecDepth 65536 in
theorem w_t2 : ((words1.drop 24).take 24).all (fun c => isCode c || c.before args0 about1) = true := by decide +kernel
set_option maxRecDepth 65536 in
theorem w_t3 : ((words1.drop 24).drop 24).all (fun c => isCode c || c.before args0 about1) = true := by decide +kernel
theorem w_tables : (allAtoms (Jvm.Cond.code x code maxLocals ret :: tables_1)).before args0 about1 = true := by
  rw [allAtoms_all]
  show words1.all (fun c => c.before args0 about1) = true
  refine all_split ?_ w_codes
  rw [← List.take_append_drop 24 words1, List.all_append, w_t1, ← List.take_append_drop 24 (words1.drop 24), List.all_append, w_t2, w_t3]
  rfl
set_option maxRecDepth 65536 in
theorem w_rest : rest_1_c.before args0 about1 = true := by decide +kernel
set_option maxRecDepth 65536 in
theorem w_case : (Jvm.Cond.and given_1 narrow_1).before args0 about1 = true := by decide +kernel
theorem w_applies : (headSpec (Jvm.Cond.code x code maxLocals ret :: tables_1) room_1).applies x e0.platform about1 = true :=
  (Spec.applies_iff w_frames).mpr ⟨w_running, w_runnable, w_alone, w_named, w_hears, w_ripe, w_room, w_tables⟩
theorem atStart : AtStart classFile x code maxLocals ret World_1 tables_1 room_1 Calls_1 rest_1 Pre_1 launch0 p0 e0 about1 theMethod args0 below0 :=
  ⟨lists_1, trivial, launch0.admits_env _ _ _, launch0.least_env, fairChoices_fair.cas, fairChoices_fair.clock, w_frames, w_args, w_heap, w_applies, trivial, w_rest, w_case⟩
end start1
theorem witness_1 : WitnessClaimed_1 := ⟨start1.p0, start1.e0, start1.about1, start1.theMethod, start1.args0, start1.below0, start1.atStart⟩
end Jvm.Pilot.@@N@@
