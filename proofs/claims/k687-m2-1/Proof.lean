import JvmDerived
import JvmDerived.Pilot.@@N@@Statement
import JvmDerived.Pilot.@@N@@Code
set_option linter.unusedVariables false
set_option linter.unusedSimpArgs false
namespace Jvm.Pilot.@@N@@
namespace W
open Jvm Jvm.ClassFile Sem Op Lib Jvm.Free Jvm.Stand Jvm.LawKit Jvm.RoadKit Bundle
/-- from U the run comes to an end that says G -/
def Go (tb : Tables) (e : Env) (below : List Frame) (G : Outcome → State → Prop) (U : State) : Prop := ∃ s₂ o, Steps tb e below U s₂ ∧ s₂.status = .running ∧ Ended s₂ below o ∧ G o s₂
theorem Go.via {tb : Tables} {e : Env} {below : List Frame} {G : Outcome → State → Prop} {U V : State} (f : ∀ t, Steps tb e below V t → Steps tb e below U t) (k : Go tb e below G V) : Go tb e below G U := by
  obtain ⟨s₂, o, h1, h⟩ := k; exact ⟨s₂, o, f _ h1, h⟩
theorem Go.tr {tb : Tables} {e : Env} {below : List Frame} {G : Outcome → State → Prop} {U V : State} (f : Steps tb e below U V) (k : Go tb e below G V) : Go tb e below G U := by
  obtain ⟨s₂, o, h1, h⟩ := k; exact ⟨s₂, o, f.trans h1, h⟩
/-- what a comparison of two ints says -/
abbrev cv (cd : ClassFile.Cond) (a b : Int32) : Prop := match cd with
  | .eq => a = b
  | .ne => ¬ a = b
  | .lt => a < b
  | .ge => ¬ a < b
  | .gt => b < a
  | .le => ¬ b < a
theorem cvY {cd : ClassFile.Cond} {a b : Int32} (q : cv cd a b) : if_icmp.holds cd a b = true := by
  cases cd
  · exact (teq q).1
  · exact (feq q).2
  · exact (tlt q).1
  · exact (flt q).2.1
  · exact (tlt q).2.2.1
  · exact (flt q).2.2.2
theorem cvN {cd : ClassFile.Cond} {a b : Int32} (q : ¬ cv cd a b) : if_icmp.holds cd a b = false := by
  cases cd
  · exact (feq q).1
  · exact (teq (Decidable.byContradiction q)).2
  · exact (flt q).1
  · exact (tlt (Decidable.byContradiction q)).2.1
  · exact (flt q).2.2.1
  · exact (tlt (Decidable.byContradiction q)).2.2.2
theorem cvD (cd : ClassFile.Cond) (a b : Int32) : cv cd a b ∨ ¬ cv cd a b := Classical.em _
abbrev Q0 (p : Program) (T : State) (m : MethodId) (c : Code) (below : List Frame) (code : ByteArray) : Prop := At T m c below ∧ p.tables.exec = Jvm.exec ∧ c.code = code
theorem catR {v : Value} (h : v.isRef = true) : v.category = 1 := by cases v <;> first | rfl | cases h
theorem stR {ls ls2 : Array Slot} {k : Nat} {v : Value} {o : Slot} (hv : v.isRef = true) (hold : ls[k]? = some o) (ho : One o) (h2 : ls.setIfInBounds k (.val v) = ls2) : storeLocals ls k v = some ls2 := by
  rw [← h2]; exact Jvm.Free.XS.store1 hold ho (catR hv)
section Plain
variable {p : Program} {e : Env} {below : List Frame} {G : Outcome → State → Prop} {T : State} {m : MethodId} {c : Code} {code : ByteArray} {pc pc1 pc2 : Nat} {ls ls2 : Array Slot} {st : List Value}

theorem g_iloadN (q : Q0 p T m c below code) {k : Fin 4} {v : Int32} (hd : decode code pc = .ok (.iload_n k, 1)) (hl : ls[k.val]? = some (.val (.int v))) (hp : pc + 1 = pc1) (K : Go p.tables e below G (T.setTop (mkF m pc1 ls (.int v :: st)))) : Go p.tables e below G (T.setTop (mkF m pc ls st)) := by
  subst hp; exact Go.via (fun _ k => Jvm.Free.XS.iloadN q.1 q.2.1 rfl (hb q.2.2 hd) hl k) K
theorem g_aloadN (q : Q0 p T m c below code) {k : Fin 4} {v : Value} (hd : decode code pc = .ok (.aload_n k, 1)) (hl : ls[k.val]? = some (.val v)) (hv : v.isRef = true) (hp : pc + 1 = pc1) (K : Go p.tables e below G (T.setTop (mkF m pc1 ls (v :: st)))) : Go p.tables e below G (T.setTop (mkF m pc ls st)) := by
  subst hp; exact Go.via (fun _ k => Jvm.Free.XS.aloadN q.1 q.2.1 rfl (hb q.2.2 hd) hl hv k) K
theorem g_istoreN (q : Q0 p T m c below code) {k : Fin 4} {v : Int32} (hd : decode code pc = .ok (.istore_n k, 1)) (hl : storeLocals ls k.val (.int v) = some ls2) (hp : pc + 1 = pc1) (K : Go p.tables e below G (T.setTop (mkF m pc1 ls2 st))) : Go p.tables e below G (T.setTop (mkF m pc ls (.int v :: st))) := by
  subst hp; exact Go.via (fun _ k => Jvm.Free.XS.istoreN q.1 q.2.1 rfl (hb q.2.2 hd) rfl hl k) K
theorem g_astoreN (q : Q0 p T m c below code) {k : Fin 4} {v : Value} (hd : decode code pc = .ok (.astore_n k, 1)) (hv : v.isRef = true) (hl : storeLocals ls k.val v = some ls2) (hp : pc + 1 = pc1) (K : Go p.tables e below G (T.setTop (mkF m pc1 ls2 st))) : Go p.tables e below G (T.setTop (mkF m pc ls (v :: st))) := by
  subst hp; exact Go.via (fun _ k => Jvm.Free.XS.astoreN q.1 q.2.1 rfl (hb q.2.2 hd) rfl hv hl k) K
theorem g_lloadN (q : Q0 p T m c below code) {k : Fin 4} {v : Int64} (hd : decode code pc = .ok (.lload_n k, 1)) (hl : ls[k.val]? = some (.val (.long v))) (hp : pc + 1 = pc1) (K : Go p.tables e below G (T.setTop (mkF m pc1 ls (.long v :: st)))) : Go p.tables e below G (T.setTop (mkF m pc ls st)) := by
  subst hp; exact Go.via (fun _ k => Jvm.Free.XT.lloadN q.1 q.2.1 rfl (hb q.2.2 hd) hl k) K
theorem g_lstoreN (q : Q0 p T m c below code) {k : Fin 4} {v : Int64} (hd : decode code pc = .ok (.lstore_n k, 1)) (hl : storeLocals ls k.val (.long v) = some ls2) (hp : pc + 1 = pc1) (K : Go p.tables e below G (T.setTop (mkF m pc1 ls2 st))) : Go p.tables e below G (T.setTop (mkF m pc ls (.long v :: st))) := by
  subst hp; exact Go.via (fun _ k => Jvm.Free.XT.lstoreN q.1 q.2.1 rfl (hb q.2.2 hd) rfl hl k) K
theorem g_iload (q : Q0 p T m c below code) {k : Nat} {v : Int32} (hd : decode code pc = .ok (.iload k, 2)) (hl : ls[k]? = some (.val (.int v))) (hp : pc + 2 = pc1) (K : Go p.tables e below G (T.setTop (mkF m pc1 ls (.int v :: st)))) : Go p.tables e below G (T.setTop (mkF m pc ls st)) := by
  subst hp; exact Go.via (fun _ k => Jvm.Free.XS.iload q.1 q.2.1 rfl (hb q.2.2 hd) hl k) K
theorem g_aload (q : Q0 p T m c below code) {k : Nat} {v : Value} (hd : decode code pc = .ok (.aload k, 2)) (hl : ls[k]? = some (.val v)) (hv : v.isRef = true) (hp : pc + 2 = pc1) (K : Go p.tables e below G (T.setTop (mkF m pc1 ls (v :: st)))) : Go p.tables e below G (T.setTop (mkF m pc ls st)) := by
  subst hp; exact Go.via (fun _ k => Jvm.Free.XS.aload q.1 q.2.1 rfl (hb q.2.2 hd) hl hv k) K
theorem g_istore (q : Q0 p T m c below code) {k : Nat} {v : Int32} (hd : decode code pc = .ok (.istore k, 2)) (hl : storeLocals ls k (.int v) = some ls2) (hp : pc + 2 = pc1) (K : Go p.tables e below G (T.setTop (mkF m pc1 ls2 st))) : Go p.tables e below G (T.setTop (mkF m pc ls (.int v :: st))) := by
  subst hp; exact Go.via (fun _ k => Jvm.Free.XS.istore q.1 q.2.1 rfl (hb q.2.2 hd) rfl hl k) K
theorem g_astore (q : Q0 p T m c below code) {k : Nat} {v : Value} (hd : decode code pc = .ok (.astore k, 2)) (hv : v.isRef = true) (hl : storeLocals ls k v = some ls2) (hp : pc + 2 = pc1) (K : Go p.tables e below G (T.setTop (mkF m pc1 ls2 st))) : Go p.tables e below G (T.setTop (mkF m pc ls (v :: st))) := by
  subst hp; exact Go.via (fun _ k => Jvm.Free.XS.astore q.1 q.2.1 rfl (hb q.2.2 hd) rfl hv hl k) K
theorem g_lload (q : Q0 p T m c below code) {k : Nat} {v : Int64} (hd : decode code pc = .ok (.lload k, 2)) (hl : ls[k]? = some (.val (.long v))) (hp : pc + 2 = pc1) (K : Go p.tables e below G (T.setTop (mkF m pc1 ls (.long v :: st)))) : Go p.tables e below G (T.setTop (mkF m pc ls st)) := by
  subst hp; exact Go.via (fun _ k => Jvm.Free.XT.lload q.1 q.2.1 rfl (hb q.2.2 hd) hl k) K
theorem g_lstore (q : Q0 p T m c below code) {k : Nat} {v : Int64} (hd : decode code pc = .ok (.lstore k, 2)) (hl : storeLocals ls k (.long v) = some ls2) (hp : pc + 2 = pc1) (K : Go p.tables e below G (T.setTop (mkF m pc1 ls2 st))) : Go p.tables e below G (T.setTop (mkF m pc ls (.long v :: st))) := by
  subst hp; exact Go.via (fun _ k => Jvm.Free.XT.lstore q.1 q.2.1 rfl (hb q.2.2 hd) rfl hl k) K
theorem g_iconst (q : Q0 p T m c below code) {i : Int} {v : Int32} (hd : decode code pc = .ok (.iconst i, 1)) (hv : Int32.ofInt i = v) (hp : pc + 1 = pc1) (K : Go p.tables e below G (T.setTop (mkF m pc1 ls (.int v :: st)))) : Go p.tables e below G (T.setTop (mkF m pc ls st)) := by
  subst hp; exact Go.via (fun _ k => Jvm.Free.XS.iconst q.1 q.2.1 rfl (hb q.2.2 hd) (hv ▸ k)) K
theorem g_bipush (q : Q0 p T m c below code) {i : Int} {v : Int32} (hd : decode code pc = .ok (.bipush i, 2)) (hv : (Int8.ofInt i).toInt32 = v) (hp : pc + 2 = pc1) (K : Go p.tables e below G (T.setTop (mkF m pc1 ls (.int v :: st)))) : Go p.tables e below G (T.setTop (mkF m pc ls st)) := by
  subst hp; exact Go.via (fun _ k => Jvm.Free.XS.bipush q.1 q.2.1 rfl (hb q.2.2 hd) (hv ▸ k)) K
theorem g_sipush (q : Q0 p T m c below code) {i : Int} {v : Int32} (hd : decode code pc = .ok (.sipush i, 3)) (hv : (Int16.ofInt i).toInt32 = v) (hp : pc + 3 = pc1) (K : Go p.tables e below G (T.setTop (mkF m pc1 ls (.int v :: st)))) : Go p.tables e below G (T.setTop (mkF m pc ls st)) := by
  subst hp; exact Go.via (fun _ k => Jvm.Free.XS.sipush q.1 q.2.1 rfl (hb q.2.2 hd) (hv ▸ k)) K
theorem g_null (q : Q0 p T m c below code)  (hd : decode code pc = .ok (.aconst_null, 1))  (hp : pc + 1 = pc1) (K : Go p.tables e below G (T.setTop (mkF m pc1 ls (.null :: st)))) : Go p.tables e below G (T.setTop (mkF m pc ls st)) := by
  subst hp; exact Go.via (fun _ k => Jvm.Free.XS.aconstNull q.1 q.2.1 rfl (hb q.2.2 hd) k) K
theorem g_iadd (q : Q0 p T m c below code) {x y : Int32} (hd : decode code pc = .ok (.iadd, 1))  (hp : pc + 1 = pc1) (K : Go p.tables e below G (T.setTop (mkF m pc1 ls (.int (x + y) :: st)))) : Go p.tables e below G (T.setTop (mkF m pc ls (.int y :: .int x :: st))) := by
  subst hp; exact Go.via (fun _ k => Jvm.Free.XS.iadd q.1 q.2.1 rfl (hb q.2.2 hd) rfl k) K
theorem g_isub (q : Q0 p T m c below code) {x y : Int32} (hd : decode code pc = .ok (.isub, 1))  (hp : pc + 1 = pc1) (K : Go p.tables e below G (T.setTop (mkF m pc1 ls (.int (x - y) :: st)))) : Go p.tables e below G (T.setTop (mkF m pc ls (.int y :: .int x :: st))) := by
  subst hp; exact Go.via (fun _ k => Jvm.Free.XS.isub q.1 q.2.1 rfl (hb q.2.2 hd) rfl k) K
theorem g_iand (q : Q0 p T m c below code) {x y : Int32} (hd : decode code pc = .ok (.iand, 1))  (hp : pc + 1 = pc1) (K : Go p.tables e below G (T.setTop (mkF m pc1 ls (.int (x &&& y) :: st)))) : Go p.tables e below G (T.setTop (mkF m pc ls (.int y :: .int x :: st))) := by
  subst hp; exact Go.via (fun _ k => Jvm.Free.XS.iand q.1 q.2.1 rfl (hb q.2.2 hd) rfl k) K
theorem g_imul (q : Q0 p T m c below code) {x y : Int32} (hd : decode code pc = .ok (.imul, 1))  (hp : pc + 1 = pc1) (K : Go p.tables e below G (T.setTop (mkF m pc1 ls (.int (x * y) :: st)))) : Go p.tables e below G (T.setTop (mkF m pc ls (.int y :: .int x :: st))) := by
  subst hp; exact Go.via (fun _ k => Jvm.Free.XS.imul q.1 q.2.1 rfl (hb q.2.2 hd) rfl k) K
theorem g_irem (q : Q0 p T m c below code) {x y : Int32} (hd : decode code pc = .ok (.irem, 1)) (hy : y ≠ 0) (hp : pc + 1 = pc1) (K : Go p.tables e below G (T.setTop (mkF m pc1 ls (.int (x - (x / y) * y) :: st)))) : Go p.tables e below G (T.setTop (mkF m pc ls (.int y :: .int x :: st))) := by
  subst hp; exact Go.via (fun _ k => Jvm.Free.XS.irem q.1 q.2.1 rfl (hb q.2.2 hd) rfl hy k) K
theorem g_idiv (q : Q0 p T m c below code) {x y : Int32} (hd : decode code pc = .ok (.idiv, 1)) (hy : y ≠ 0) (hp : pc + 1 = pc1) (K : Go p.tables e below G (T.setTop (mkF m pc1 ls (.int (x / y) :: st)))) : Go p.tables e below G (T.setTop (mkF m pc ls (.int y :: .int x :: st))) := by
  subst hp; exact Go.via (fun _ k => Jvm.Free.XS.idiv q.1 q.2.1 rfl (hb q.2.2 hd) rfl hy k) K
theorem g_ineg (q : Q0 p T m c below code) {x : Int32} (hd : decode code pc = .ok (.ineg, 1))  (hp : pc + 1 = pc1) (K : Go p.tables e below G (T.setTop (mkF m pc1 ls (.int (-x) :: st)))) : Go p.tables e below G (T.setTop (mkF m pc ls (.int x :: st))) := by
  subst hp; exact Go.via (fun _ k => Jvm.Free.XS.ineg q.1 q.2.1 rfl (hb q.2.2 hd) rfl k) K
theorem g_ior (q : Q0 p T m c below code) {x y : Int32} (hd : decode code pc = .ok (.ior, 1))  (hp : pc + 1 = pc1) (K : Go p.tables e below G (T.setTop (mkF m pc1 ls (.int (x ||| y) :: st)))) : Go p.tables e below G (T.setTop (mkF m pc ls (.int y :: .int x :: st))) := by
  subst hp; exact Go.via (fun _ k => Jvm.Free.XT.ior q.1 q.2.1 rfl (hb q.2.2 hd) rfl k) K
theorem g_ixor (q : Q0 p T m c below code) {x y : Int32} (hd : decode code pc = .ok (.ixor, 1))  (hp : pc + 1 = pc1) (K : Go p.tables e below G (T.setTop (mkF m pc1 ls (.int (x ^^^ y) :: st)))) : Go p.tables e below G (T.setTop (mkF m pc ls (.int y :: .int x :: st))) := by
  subst hp; exact Go.via (fun _ k => Jvm.Free.XT.ixor q.1 q.2.1 rfl (hb q.2.2 hd) rfl k) K
theorem g_ishl (q : Q0 p T m c below code) {x y : Int32} (hd : decode code pc = .ok (.ishl, 1))  (hp : pc + 1 = pc1) (K : Go p.tables e below G (T.setTop (mkF m pc1 ls (.int (x <<< (y &&& 31)) :: st)))) : Go p.tables e below G (T.setTop (mkF m pc ls (.int y :: .int x :: st))) := by
  subst hp; exact Go.via (fun _ k => Jvm.Free.XT.ishl q.1 q.2.1 rfl (hb q.2.2 hd) rfl k) K
theorem g_ishr (q : Q0 p T m c below code) {x y : Int32} (hd : decode code pc = .ok (.ishr, 1))  (hp : pc + 1 = pc1) (K : Go p.tables e below G (T.setTop (mkF m pc1 ls (.int (x >>> (y &&& 31)) :: st)))) : Go p.tables e below G (T.setTop (mkF m pc ls (.int y :: .int x :: st))) := by
  subst hp; exact Go.via (fun _ k => Jvm.Free.XT.ishr q.1 q.2.1 rfl (hb q.2.2 hd) rfl k) K
theorem g_iushr (q : Q0 p T m c below code) {x y : Int32} (hd : decode code pc = .ok (.iushr, 1))  (hp : pc + 1 = pc1) (K : Go p.tables e below G (T.setTop (mkF m pc1 ls (.int (Jvm.Free.XT.ushr x y) :: st)))) : Go p.tables e below G (T.setTop (mkF m pc ls (.int y :: .int x :: st))) := by
  subst hp; exact Go.via (fun _ k => Jvm.Free.XT.iushr q.1 q.2.1 rfl (hb q.2.2 hd) rfl k) K
theorem g_i2b (q : Q0 p T m c below code) {x : Int32} (hd : decode code pc = .ok (.i2b, 1))  (hp : pc + 1 = pc1) (K : Go p.tables e below G (T.setTop (mkF m pc1 ls (.int (x.toInt8.toInt32) :: st)))) : Go p.tables e below G (T.setTop (mkF m pc ls (.int x :: st))) := by
  subst hp; exact Go.via (fun _ k => Jvm.Free.XT.i2b q.1 q.2.1 rfl (hb q.2.2 hd) rfl k) K
theorem g_i2c (q : Q0 p T m c below code) {x : Int32} (hd : decode code pc = .ok (.i2c, 1))  (hp : pc + 1 = pc1) (K : Go p.tables e below G (T.setTop (mkF m pc1 ls (.int (x.toUInt32.toUInt16.toUInt32.toInt32) :: st)))) : Go p.tables e below G (T.setTop (mkF m pc ls (.int x :: st))) := by
  subst hp; exact Go.via (fun _ k => Jvm.Free.XT.i2c q.1 q.2.1 rfl (hb q.2.2 hd) rfl k) K
theorem g_i2s (q : Q0 p T m c below code) {x : Int32} (hd : decode code pc = .ok (.i2s, 1))  (hp : pc + 1 = pc1) (K : Go p.tables e below G (T.setTop (mkF m pc1 ls (.int (x.toInt16.toInt32) :: st)))) : Go p.tables e below G (T.setTop (mkF m pc ls (.int x :: st))) := by
  subst hp; exact Go.via (fun _ k => Jvm.Free.XT.i2s q.1 q.2.1 rfl (hb q.2.2 hd) rfl k) K
theorem g_i2l (q : Q0 p T m c below code) {x : Int32} (hd : decode code pc = .ok (.i2l, 1))  (hp : pc + 1 = pc1) (K : Go p.tables e below G (T.setTop (mkF m pc1 ls (.long x.toInt64 :: st)))) : Go p.tables e below G (T.setTop (mkF m pc ls (.int x :: st))) := by
  subst hp; exact Go.via (fun _ k => Jvm.Free.XT.i2l q.1 q.2.1 rfl (hb q.2.2 hd) rfl k) K
theorem g_l2i (q : Q0 p T m c below code) {x : Int64} (hd : decode code pc = .ok (.l2i, 1))  (hp : pc + 1 = pc1) (K : Go p.tables e below G (T.setTop (mkF m pc1 ls (.int x.toInt32 :: st)))) : Go p.tables e below G (T.setTop (mkF m pc ls (.long x :: st))) := by
  subst hp; exact Go.via (fun _ k => Jvm.Free.XT.l2i q.1 q.2.1 rfl (hb q.2.2 hd) rfl k) K
theorem g_ladd (q : Q0 p T m c below code) {x y : Int64} (hd : decode code pc = .ok (.ladd, 1))  (hp : pc + 1 = pc1) (K : Go p.tables e below G (T.setTop (mkF m pc1 ls (.long (x + y) :: st)))) : Go p.tables e below G (T.setTop (mkF m pc ls (.long y :: .long x :: st))) := by
  subst hp; exact Go.via (fun _ k => Jvm.Free.XT.ladd q.1 q.2.1 rfl (hb q.2.2 hd) rfl k) K
theorem g_lsub (q : Q0 p T m c below code) {x y : Int64} (hd : decode code pc = .ok (.lsub, 1))  (hp : pc + 1 = pc1) (K : Go p.tables e below G (T.setTop (mkF m pc1 ls (.long (x - y) :: st)))) : Go p.tables e below G (T.setTop (mkF m pc ls (.long y :: .long x :: st))) := by
  subst hp; exact Go.via (fun _ k => Jvm.Free.XT.lsub q.1 q.2.1 rfl (hb q.2.2 hd) rfl k) K
theorem g_lmul (q : Q0 p T m c below code) {x y : Int64} (hd : decode code pc = .ok (.lmul, 1))  (hp : pc + 1 = pc1) (K : Go p.tables e below G (T.setTop (mkF m pc1 ls (.long (x * y) :: st)))) : Go p.tables e below G (T.setTop (mkF m pc ls (.long y :: .long x :: st))) := by
  subst hp; exact Go.via (fun _ k => Jvm.Free.XT.lmul q.1 q.2.1 rfl (hb q.2.2 hd) rfl k) K
theorem g_land (q : Q0 p T m c below code) {x y : Int64} (hd : decode code pc = .ok (.land, 1))  (hp : pc + 1 = pc1) (K : Go p.tables e below G (T.setTop (mkF m pc1 ls (.long (x &&& y) :: st)))) : Go p.tables e below G (T.setTop (mkF m pc ls (.long y :: .long x :: st))) := by
  subst hp; exact Go.via (fun _ k => Jvm.Free.XT.land q.1 q.2.1 rfl (hb q.2.2 hd) rfl k) K
theorem g_lor (q : Q0 p T m c below code) {x y : Int64} (hd : decode code pc = .ok (.lor, 1))  (hp : pc + 1 = pc1) (K : Go p.tables e below G (T.setTop (mkF m pc1 ls (.long (x ||| y) :: st)))) : Go p.tables e below G (T.setTop (mkF m pc ls (.long y :: .long x :: st))) := by
  subst hp; exact Go.via (fun _ k => Jvm.Free.XT.lor q.1 q.2.1 rfl (hb q.2.2 hd) rfl k) K
theorem g_lshl (q : Q0 p T m c below code) {x : Int64} {y : Int32} (hd : decode code pc = .ok (.lshl, 1))  (hp : pc + 1 = pc1) (K : Go p.tables e below G (T.setTop (mkF m pc1 ls (.long (x <<< (y.toInt64 &&& 63)) :: st)))) : Go p.tables e below G (T.setTop (mkF m pc ls (.int y :: .long x :: st))) := by
  subst hp; exact Go.via (fun _ k => Jvm.Free.XT.lshl q.1 q.2.1 rfl (hb q.2.2 hd) rfl k) K
theorem g_lshr (q : Q0 p T m c below code) {x : Int64} {y : Int32} (hd : decode code pc = .ok (.lshr, 1))  (hp : pc + 1 = pc1) (K : Go p.tables e below G (T.setTop (mkF m pc1 ls (.long (x >>> (y.toInt64 &&& 63)) :: st)))) : Go p.tables e below G (T.setTop (mkF m pc ls (.int y :: .long x :: st))) := by
  subst hp; exact Go.via (fun _ k => Jvm.Free.XT.lshr q.1 q.2.1 rfl (hb q.2.2 hd) rfl k) K
theorem g_lushr (q : Q0 p T m c below code) {x : Int64} {y : Int32} (hd : decode code pc = .ok (.lushr, 1))  (hp : pc + 1 = pc1) (K : Go p.tables e below G (T.setTop (mkF m pc1 ls (.long (Jvm.Free.XT.ushrL x y) :: st)))) : Go p.tables e below G (T.setTop (mkF m pc ls (.int y :: .long x :: st))) := by
  subst hp; exact Go.via (fun _ k => Jvm.Free.XT.lushr q.1 q.2.1 rfl (hb q.2.2 hd) rfl k) K
theorem g_lrem (q : Q0 p T m c below code) {x y : Int64} (hd : decode code pc = .ok (.lrem, 1)) (hy : y ≠ 0) (hp : pc + 1 = pc1) (K : Go p.tables e below G (T.setTop (mkF m pc1 ls (.long (x - (x / y) * y) :: st)))) : Go p.tables e below G (T.setTop (mkF m pc ls (.long y :: .long x :: st))) := by
  subst hp; exact Go.via (fun _ k => Jvm.Free.XT.lrem q.1 q.2.1 rfl (hb q.2.2 hd) rfl hy k) K
theorem g_lneg (q : Q0 p T m c below code) {x : Int64} (hd : decode code pc = .ok (.lneg, 1))  (hp : pc + 1 = pc1) (K : Go p.tables e below G (T.setTop (mkF m pc1 ls (.long (-x) :: st)))) : Go p.tables e below G (T.setTop (mkF m pc ls (.long x :: st))) := by
  subst hp; exact Go.via (fun _ k => Jvm.Free.XT.lneg q.1 q.2.1 rfl (hb q.2.2 hd) rfl k) K
theorem g_lcmp (q : Q0 p T m c below code) {x y : Int64} (hd : decode code pc = .ok (.lcmp, 1))  (hp : pc + 1 = pc1) (K : Go p.tables e below G (T.setTop (mkF m pc1 ls (.int (Jvm.Free.XT.cmpL x y) :: st)))) : Go p.tables e below G (T.setTop (mkF m pc ls (.long y :: .long x :: st))) := by
  subst hp; exact Go.via (fun _ k => Jvm.Free.XT.lcmp q.1 q.2.1 rfl (hb q.2.2 hd) rfl k) K
theorem g_lconst (q : Q0 p T m c below code) {i : Fin 2} {v : Int64} (hd : decode code pc = .ok (.lconst i, 1)) (hv : Int64.ofNat i.val = v) (hp : pc + 1 = pc1) (K : Go p.tables e below G (T.setTop (mkF m pc1 ls (.long v :: st)))) : Go p.tables e below G (T.setTop (mkF m pc ls st)) := by
  subst hp; exact Go.via (fun _ k => Jvm.Free.XT.lconst q.1 q.2.1 rfl (hb q.2.2 hd) (hv ▸ k)) K
theorem g_iinc (q : Q0 p T m c below code) {k : Nat} {i : Int} {v : Int32} (hd : decode code pc = .ok (.iinc k i, 3)) (hl : ls[k]? = some (.val (.int v))) (hl2 : storeLocals ls k (.int (v + Int32.ofInt i)) = some ls2) (hp : pc + 3 = pc1) (K : Go p.tables e below G (T.setTop (mkF m pc1 ls2 st))) : Go p.tables e below G (T.setTop (mkF m pc ls st)) := by
  subst hp; exact Go.via (fun _ k => Jvm.Free.XS.iinc q.1 q.2.1 rfl (hb q.2.2 hd) hl hl2 k) K
theorem g_dup (q : Q0 p T m c below code) {x : Value} (hd : decode code pc = .ok (.dup, 1)) (hc : x.category = 1) (hp : pc + 1 = pc1) (K : Go p.tables e below G (T.setTop (mkF m pc1 ls (x :: x :: st)))) : Go p.tables e below G (T.setTop (mkF m pc ls (x :: st))) := by
  subst hp; exact Go.via (fun _ k => Jvm.Free.XS.dup q.1 q.2.1 rfl (hb q.2.2 hd) rfl hc k) K
theorem g_pop (q : Q0 p T m c below code) {x : Value} (hd : decode code pc = .ok (.pop, 1)) (hc : x.category = 1) (hp : pc + 1 = pc1) (K : Go p.tables e below G (T.setTop (mkF m pc1 ls st))) : Go p.tables e below G (T.setTop (mkF m pc ls (x :: st))) := by
  subst hp; exact Go.via (fun _ k => Jvm.Free.XT.pop q.1 q.2.1 rfl (hb q.2.2 hd) rfl hc k) K
theorem g_dup2 (q : Q0 p T m c below code) {x y : Value} (hd : decode code pc = .ok (.dup2, 1)) (hc : x.category = 1) (hc2 : y.category = 1) (hp : pc + 1 = pc1) (K : Go p.tables e below G (T.setTop (mkF m pc1 ls (x :: y :: x :: y :: st)))) : Go p.tables e below G (T.setTop (mkF m pc ls (x :: y :: st))) := by
  subst hp; exact Go.via (fun _ k => Jvm.Free.XT.dup2 q.1 q.2.1 rfl (hb q.2.2 hd) rfl hc hc2 k) K
theorem g_dloadN (q : Q0 p T m c below code) {k : Fin 4} {v : UInt64} (hd : decode code pc = .ok (.dload_n k, 1)) (hl : ls[k.val]? = some (.val (.double v))) (hp : pc + 1 = pc1) (K : Go p.tables e below G (T.setTop (mkF m pc1 ls (.double v :: st)))) : Go p.tables e below G (T.setTop (mkF m pc ls st)) := by
  subst hp; exact Go.via (fun _ k => Jvm.Free.XS.dloadN q.1 q.2.1 rfl (hb q.2.2 hd) hl k) K
theorem g_dstoreN (q : Q0 p T m c below code) {k : Fin 4} {v : UInt64} (hd : decode code pc = .ok (.dstore_n k, 1)) (hl : storeLocals ls k.val (.double v) = some ls2) (hp : pc + 1 = pc1) (K : Go p.tables e below G (T.setTop (mkF m pc1 ls2 st))) : Go p.tables e below G (T.setTop (mkF m pc ls (.double v :: st))) := by
  subst hp; exact Go.via (fun _ k => Jvm.Free.XS.dstoreN q.1 q.2.1 rfl (hb q.2.2 hd) rfl hl k) K
theorem g_dload (q : Q0 p T m c below code) {k : Nat} {v : UInt64} (hd : decode code pc = .ok (.dload k, 2)) (hl : ls[k]? = some (.val (.double v))) (hp : pc + 2 = pc1) (K : Go p.tables e below G (T.setTop (mkF m pc1 ls (.double v :: st)))) : Go p.tables e below G (T.setTop (mkF m pc ls st)) := by
  subst hp; exact Go.via (fun _ k => Jvm.Free.XS.dload q.1 q.2.1 rfl (hb q.2.2 hd) hl k) K
theorem g_dstore (q : Q0 p T m c below code) {k : Nat} {v : UInt64} (hd : decode code pc = .ok (.dstore k, 2)) (hl : storeLocals ls k (.double v) = some ls2) (hp : pc + 2 = pc1) (K : Go p.tables e below G (T.setTop (mkF m pc1 ls2 st))) : Go p.tables e below G (T.setTop (mkF m pc ls (.double v :: st))) := by
  subst hp; exact Go.via (fun _ k => Jvm.Free.XS.dstore q.1 q.2.1 rfl (hb q.2.2 hd) rfl hl k) K
theorem g_dconst0 (q : Q0 p T m c below code)  (hd : decode code pc = .ok (.dconst 0, 1))  (hp : pc + 1 = pc1) (K : Go p.tables e below G (T.setTop (mkF m pc1 ls (.double 0 :: st)))) : Go p.tables e below G (T.setTop (mkF m pc ls st)) := by
  subst hp; exact Go.via (fun _ k => Jvm.Free.XS.dconst0 q.1 q.2.1 rfl (hb q.2.2 hd) (by decide +kernel) k) K
theorem g_i2d (q : Q0 p T m c below code) {x : Int32} (hd : decode code pc = .ok (.i2d, 1))  (hp : pc + 1 = pc1) (K : Go p.tables e below G (T.setTop (mkF m pc1 ls (.double (FP.i2d x) :: st)))) : Go p.tables e below G (T.setTop (mkF m pc ls (.int x :: st))) := by
  subst hp; exact Go.via (fun _ k => Jvm.Free.XS.i2dS q.1 q.2.1 rfl (hb q.2.2 hd) rfl rfl k) K
theorem g_l2d (q : Q0 p T m c below code) {x : Int64} (hd : decode code pc = .ok (.l2d, 1))  (hp : pc + 1 = pc1) (K : Go p.tables e below G (T.setTop (mkF m pc1 ls (.double (FP.l2d x) :: st)))) : Go p.tables e below G (T.setTop (mkF m pc ls (.long x :: st))) := by
  subst hp; exact Go.via (fun _ k => Jvm.Free.XS.l2dS q.1 q.2.1 rfl (hb q.2.2 hd) rfl rfl k) K
theorem g_dcmp (q : Q0 p T m c below code) {o : CmpOp} {x y : UInt64} (hd : decode code pc = .ok (.dcmp o, 1))  (hp : pc + 1 = pc1) (K : Go p.tables e below G (T.setTop (mkF m pc1 ls (.int (cmpValue (FP.dcmp x y) o) :: st)))) : Go p.tables e below G (T.setTop (mkF m pc ls (.double y :: .double x :: st))) := by
  subst hp; exact Go.via (fun _ k => Jvm.Free.XS.dcmpS q.1 q.2.1 rfl (hb q.2.2 hd) rfl rfl k) K
theorem g_dadd (q : Q0 p T m c below code) {x y : UInt64} (hd : decode code pc = .ok (.dadd, 1)) (hn : Jvm.Free.Fl.NoNaN64 (FP.dadd x y)) (hp : pc + 1 = pc1) (K : Go p.tables e below G (T.setTop (mkF m pc1 ls (.double (FP.dadd x y) :: st)))) : Go p.tables e below G (T.setTop (mkF m pc ls (.double y :: .double x :: st))) := by
  subst hp; exact Go.via (fun _ k => Jvm.Free.XS.daddS q.1 q.2.1 rfl (hb q.2.2 hd) rfl hn rfl k) K
theorem g_dmul (q : Q0 p T m c below code) {x y : UInt64} (hd : decode code pc = .ok (.dmul, 1)) (hn : Jvm.Free.Fl.NoNaN64 (FP.dmul x y)) (hp : pc + 1 = pc1) (K : Go p.tables e below G (T.setTop (mkF m pc1 ls (.double (FP.dmul x y) :: st)))) : Go p.tables e below G (T.setTop (mkF m pc ls (.double y :: .double x :: st))) := by
  subst hp; exact Go.via (fun _ k => Jvm.Free.XS.dmulS q.1 q.2.1 rfl (hb q.2.2 hd) rfl hn rfl k) K
theorem g_floadN (q : Q0 p T m c below code) {k : Fin 4} {v : UInt32} (hd : decode code pc = .ok (.fload_n k, 1)) (hl : ls[k.val]? = some (.val (.float v))) (hp : pc + 1 = pc1) (K : Go p.tables e below G (T.setTop (mkF m pc1 ls (.float v :: st)))) : Go p.tables e below G (T.setTop (mkF m pc ls st)) := by
  subst hp; exact Go.via (fun _ k => Jvm.Free.XS.floadN q.1 q.2.1 rfl (hb q.2.2 hd) hl k) K
theorem g_fstoreN (q : Q0 p T m c below code) {k : Fin 4} {v : UInt32} (hd : decode code pc = .ok (.fstore_n k, 1)) (hl : storeLocals ls k.val (.float v) = some ls2) (hp : pc + 1 = pc1) (K : Go p.tables e below G (T.setTop (mkF m pc1 ls2 st))) : Go p.tables e below G (T.setTop (mkF m pc ls (.float v :: st))) := by
  subst hp; exact Go.via (fun _ k => Jvm.Free.XS.fstoreN q.1 q.2.1 rfl (hb q.2.2 hd) rfl hl k) K
theorem g_fload (q : Q0 p T m c below code) {k : Nat} {v : UInt32} (hd : decode code pc = .ok (.fload k, 2)) (hl : ls[k]? = some (.val (.float v))) (hp : pc + 2 = pc1) (K : Go p.tables e below G (T.setTop (mkF m pc1 ls (.float v :: st)))) : Go p.tables e below G (T.setTop (mkF m pc ls st)) := by
  subst hp; exact Go.via (fun _ k => Jvm.Free.XS.fload q.1 q.2.1 rfl (hb q.2.2 hd) hl k) K
theorem g_fstore (q : Q0 p T m c below code) {k : Nat} {v : UInt32} (hd : decode code pc = .ok (.fstore k, 2)) (hl : storeLocals ls k (.float v) = some ls2) (hp : pc + 2 = pc1) (K : Go p.tables e below G (T.setTop (mkF m pc1 ls2 st))) : Go p.tables e below G (T.setTop (mkF m pc ls (.float v :: st))) := by
  subst hp; exact Go.via (fun _ k => Jvm.Free.XS.fstore q.1 q.2.1 rfl (hb q.2.2 hd) rfl hl k) K
theorem g_i2f (q : Q0 p T m c below code) {x : Int32} (hd : decode code pc = .ok (.i2f, 1))  (hp : pc + 1 = pc1) (K : Go p.tables e below G (T.setTop (mkF m pc1 ls (.float (FP.i2f x) :: st)))) : Go p.tables e below G (T.setTop (mkF m pc ls (.int x :: st))) := by
  subst hp; exact Go.via (fun _ k => Jvm.Free.XS.i2fS q.1 q.2.1 rfl (hb q.2.2 hd) rfl rfl k) K
theorem g_f2d (q : Q0 p T m c below code) {x : UInt32} (hd : decode code pc = .ok (.f2d, 1)) (hn : Jvm.Free.Fl.NoNaN64 (FP.f2d x)) (hp : pc + 1 = pc1) (K : Go p.tables e below G (T.setTop (mkF m pc1 ls (.double (FP.f2d x) :: st)))) : Go p.tables e below G (T.setTop (mkF m pc ls (.float x :: st))) := by
  subst hp; exact Go.via (fun _ k => Jvm.Free.XS.f2dS q.1 q.2.1 rfl (hb q.2.2 hd) rfl hn rfl k) K
theorem g_goto (q : Q0 p T m c below code) {o : Int} (hd : decode code pc = .ok (.goto o, 3)) (ho : 0 ≤ (pc : Int) + o) (hp : ((pc : Int) + o).toNat = pc1) (K : Go p.tables e below G (T.setTop (mkF m pc1 ls st))) : Go p.tables e below G (T.setTop (mkF m pc ls st)) :=
  Go.via (fun _ k => Jvm.Free.XS.goto q.1 q.2.1 rfl rfl (hb q.2.2 hd) ho hp k) K
theorem g_ifY (q : Q0 p T m c below code) {cd : ClassFile.Cond} {x : Int32} {o : Int} (hd : decode code pc = .ok (.ifCond cd o, 3)) (ho : 0 ≤ (pc : Int) + o) (hp : ((pc : Int) + o).toNat = pc1) (h : cv cd x 0) (K : Go p.tables e below G (T.setTop (mkF m pc1 ls st))) : Go p.tables e below G (T.setTop (mkF m pc ls (.int x :: st))) :=
  Go.via (fun _ k => Jvm.Free.XS.ifYes q.1 q.2.1 rfl rfl (hb q.2.2 hd) rfl (by rw [if0]; exact cvY h) ho hp k) K
theorem g_ifN (q : Q0 p T m c below code) {cd : ClassFile.Cond} {x : Int32} {o : Int} (hd : decode code pc = .ok (.ifCond cd o, 3)) (hp : pc + 3 = pc2) (h : ¬ cv cd x 0) (K : Go p.tables e below G (T.setTop (mkF m pc2 ls st))) : Go p.tables e below G (T.setTop (mkF m pc ls (.int x :: st))) := by
  subst hp; exact Go.via (fun _ k => Jvm.Free.XS.ifNo q.1 q.2.1 rfl (hb q.2.2 hd) rfl (by rw [if0]; exact cvN h) k) K
theorem g_if (q : Q0 p T m c below code) {cd : ClassFile.Cond} {x : Int32} {o : Int} (hd : decode code pc = .ok (.ifCond cd o, 3)) (ho : 0 ≤ (pc : Int) + o) (hp : ((pc : Int) + o).toNat = pc1) (hp2 : pc + 3 = pc2) (K : cv cd x 0 → Go p.tables e below G (T.setTop (mkF m pc1 ls st))) (K2 : ¬ cv cd x 0 → Go p.tables e below G (T.setTop (mkF m pc2 ls st))) : Go p.tables e below G (T.setTop (mkF m pc ls (.int x :: st))) :=
  (cvD cd x 0).elim (fun h => g_ifY q hd ho hp h (K h)) (fun h => g_ifN q hd hp2 h (K2 h))
theorem g_cmpY (q : Q0 p T m c below code) {cd : ClassFile.Cond} {x y : Int32} {o : Int} (hd : decode code pc = .ok (.if_icmp cd o, 3)) (ho : 0 ≤ (pc : Int) + o) (hp : ((pc : Int) + o).toNat = pc1) (h : cv cd x y) (K : Go p.tables e below G (T.setTop (mkF m pc1 ls st))) : Go p.tables e below G (T.setTop (mkF m pc ls (.int y :: .int x :: st))) :=
  Go.via (fun _ k => Jvm.Free.XS.icmpYes q.1 q.2.1 rfl rfl (hb q.2.2 hd) rfl (cvY h) ho hp k) K
theorem g_cmpN (q : Q0 p T m c below code) {cd : ClassFile.Cond} {x y : Int32} {o : Int} (hd : decode code pc = .ok (.if_icmp cd o, 3)) (hp : pc + 3 = pc2) (h : ¬ cv cd x y) (K : Go p.tables e below G (T.setTop (mkF m pc2 ls st))) : Go p.tables e below G (T.setTop (mkF m pc ls (.int y :: .int x :: st))) := by
  subst hp; exact Go.via (fun _ k => Jvm.Free.XS.icmpNo q.1 q.2.1 rfl (hb q.2.2 hd) rfl (cvN h) k) K
theorem g_cmp (q : Q0 p T m c below code) {cd : ClassFile.Cond} {x y : Int32} {o : Int} (hd : decode code pc = .ok (.if_icmp cd o, 3)) (ho : 0 ≤ (pc : Int) + o) (hp : ((pc : Int) + o).toNat = pc1) (hp2 : pc + 3 = pc2) (K : cv cd x y → Go p.tables e below G (T.setTop (mkF m pc1 ls st))) (K2 : ¬ cv cd x y → Go p.tables e below G (T.setTop (mkF m pc2 ls st))) : Go p.tables e below G (T.setTop (mkF m pc ls (.int y :: .int x :: st))) :=
  (cvD cd x y).elim (fun h => g_cmpY q hd ho hp h (K h)) (fun h => g_cmpN q hd hp2 h (K2 h))
theorem g_nullY (q : Q0 p T m c below code) {o : Int} (hd : decode code pc = .ok (.ifnull o, 3)) (ho : 0 ≤ (pc : Int) + o) (hp : ((pc : Int) + o).toNat = pc1) (K : Go p.tables e below G (T.setTop (mkF m pc1 ls st))) : Go p.tables e below G (T.setTop (mkF m pc ls (.null :: st))) :=
  Go.via (fun _ k => Jvm.Free.XS.ifnullYes q.1 q.2.1 rfl rfl (hb q.2.2 hd) rfl ho hp k) K
theorem g_nullN (q : Q0 p T m c below code) {o : Int} {b : Addr} (hd : decode code pc = .ok (.ifnull o, 3)) (hp : pc + 3 = pc2) (K : Go p.tables e below G (T.setTop (mkF m pc2 ls st))) : Go p.tables e below G (T.setTop (mkF m pc ls (.ref b :: st))) := by
  subst hp; exact Go.via (fun _ k => Jvm.Free.XS.ifnullNo q.1 q.2.1 rfl (hb q.2.2 hd) rfl k) K
theorem g_nonY (q : Q0 p T m c below code) {b : Addr} {o : Int} (hd : decode code pc = .ok (.ifnonnull o, 3)) (ho : 0 ≤ (pc : Int) + o) (hp : ((pc : Int) + o).toNat = pc1) (K : Go p.tables e below G (T.setTop (mkF m pc1 ls st))) : Go p.tables e below G (T.setTop (mkF m pc ls (.ref b :: st))) :=
  Go.via (fun _ k => Jvm.Free.XT.ifnonnullYes q.1 q.2.1 rfl rfl (hb q.2.2 hd) rfl ho hp k) K
theorem g_nonN (q : Q0 p T m c below code) {o : Int} (hd : decode code pc = .ok (.ifnonnull o, 3)) (hp : pc + 3 = pc2) (K : Go p.tables e below G (T.setTop (mkF m pc2 ls st))) : Go p.tables e below G (T.setTop (mkF m pc ls (.null :: st))) := by
  subst hp; exact Go.via (fun _ k => Jvm.Free.XT.ifnonnullNo q.1 q.2.1 rfl (hb q.2.2 hd) rfl k) K
theorem g_acmpY (q : Q0 p T m c below code) {cd : ClassFile.ACond} {x y : Value} {o : Int} (hd : decode code pc = .ok (.if_acmp cd o, 3)) (ho : 0 ≤ (pc : Int) + o) (hp : ((pc : Int) + o).toNat = pc1) (hx : x.isRef = true) (hy : y.isRef = true) (h : Jvm.Free.XT.acmp cd x y = true) (K : Go p.tables e below G (T.setTop (mkF m pc1 ls st))) : Go p.tables e below G (T.setTop (mkF m pc ls (y :: x :: st))) :=
  Go.via (fun _ k => Jvm.Free.XT.acmpYes q.1 q.2.1 rfl rfl (hb q.2.2 hd) rfl hx hy h ho hp k) K
theorem g_acmpN (q : Q0 p T m c below code) {cd : ClassFile.ACond} {x y : Value} {o : Int} (hd : decode code pc = .ok (.if_acmp cd o, 3)) (hp : pc + 3 = pc2) (hx : x.isRef = true) (hy : y.isRef = true) (h : Jvm.Free.XT.acmp cd x y = false) (K : Go p.tables e below G (T.setTop (mkF m pc2 ls st))) : Go p.tables e below G (T.setTop (mkF m pc ls (y :: x :: st))) := by
  subst hp; exact Go.via (fun _ k => Jvm.Free.XT.acmpNo q.1 q.2.1 rfl (hb q.2.2 hd) rfl hx hy h k) K
end Plain
/-- every place lies in a cell of wl, or in one made since -/
def Frw (wl : List Addr) (n : Nat) (L : List Loc) : Prop := ∀ y ∈ L, y.base ∈ wl ∨ n ≤ y.base
theorem Frw.nil {wl : List Addr} {n : Nat} : Frw wl n [] := fun _ q => nomatch q
theorem Frw.app {wl : List Addr} {n : Nat} {L L' : List Loc} (A : Frw wl n L) (B : Frw wl n L') : Frw wl n (L ++ L') := fun y q => (List.mem_append.mp q).elim (A y) (B y)
theorem Frw.snoc {wl : List Addr} {n : Nat} {L : List Loc} {a : Addr} {sl : Nat} (A : Frw wl n L) (q : a ∈ wl ∨ n ≤ a) : Frw wl n (L ++ [⟨a, sl⟩]) := A.app fun y hy => by cases List.mem_singleton.mp hy; exact q
theorem Frw.up {wl wl' : List Addr} {n n' : Nat} {L : List Loc} (A : Frw wl n L) (hn : n' ≤ n) (q : ∀ x ∈ wl, x ∈ wl' ∨ n' ≤ x) : Frw wl' n' L := fun y hy => (A y hy).elim (q _) (fun z => Or.inr (Nat.le_trans hn z))
theorem Frw.of_fr {wl : List Addr} {n n' : Nat} {L : List Loc} (A : Fr n L) (hn : n' ≤ n) : Frw wl n' L := fun y hy => Or.inr (Nat.le_trans hn (A y hy))
/-- where a walk stands: s its true start, vm0 the tables of its last interning step, h the heap -/
def Pos (p : Program) (l : Launch) (e : Env) (R : Room) (s : State) (m : MethodId) (args : Array Value) (below : List Frame) (meth : Method) (c : Code) (code : ByteArray) (Z : State) (EL : List (String × Nat)) (wl : List Addr) (hS : Heap) (own : String) (vm0 : Vm) (T : State) (locs : List Loc) (cells slots : Nat) (h : Heap) : Prop :=
  Stand p l e R (s.setVm vm0) m args below meth c T locs cells slots ∧ T.heap = h ∧ (∃ k0, s.Since vm0 k0 ∧ k0 ≤ h.size) ∧ Z.Warmed39 vm0 ∧ vm0.findClass own = some m.cls ∧ Frw wl hS.size locs ∧ s.heap = hS ∧ CHr Z EL s.vm hS vm0 h ∧ p.tables.exec = Jvm.exec ∧ c.code = code
section Heapy
variable {p : Program} {l : Launch} {e : Env} {R : Room} {s : State} {m : MethodId} {args : Array Value} {below : List Frame} {meth : Method} {c : Code} {code : ByteArray} {Z : State} {EL : List (String × Nat)} {wl : List Addr} {hS : Heap} {own : String} {vm0 : Vm} {T : State} {locs : List Loc} {cells slots : Nat} {h : Heap} {a0 : Array Value} {G : Outcome → State → Prop} {pc pc1 pc2 : Nat} {ls ls2 : Array Slot} {st : List Value}
theorem Pos.q (P : Pos p l e R s m args below meth c code Z EL wl hS own vm0 T locs cells slots h) : Q0 p T m c below code := ⟨P.1.here, P.2.2.2.2.2.2.2.2⟩
theorem Pos.hz (P : Pos p l e R s m args below meth c code Z EL wl hS own vm0 T locs cells slots h) : Z.Warmed39 (s.setVm vm0).vm := P.2.2.2.1
theorem Pos.al (P : Pos p l e R s m args below meth c code Z EL wl hS own vm0 T locs cells slots h) : Z.vm.Alike vm0 := P.2.2.2.1.alike
theorem Pos.heap (P : Pos p l e R s m args below meth c code Z EL wl hS own vm0 T locs cells slots h) : T.heap = h := P.2.1
theorem Pos.fr (P : Pos p l e R s m args below meth c code Z EL wl hS own vm0 T locs cells slots h) : Frw wl hS.size locs := P.2.2.2.2.2.1
theorem Pos.sz (P : Pos p l e R s m args below meth c code Z EL wl hS own vm0 T locs cells slots h) : hS.size ≤ h.size := P.2.2.2.2.2.2.2.1.2.1
theorem Pos.chv (P : Pos p l e R s m args below meth c code Z EL wl hS own vm0 T locs cells slots h) : CHv Z EL vm0 h := P.2.2.2.2.2.2.2.1.1
theorem Pos.chr (P : Pos p l e R s m args below meth c code Z EL wl hS own vm0 T locs cells slots h) : CHr Z EL s.vm hS vm0 h := P.2.2.2.2.2.2.2.1
theorem Pos.mono (P : Pos p l e R s m args below meth c code Z EL wl hS own vm0 T locs cells slots h) {cells' slots' : Nat} (hc : cells ≤ cells') (hs : slots ≤ slots') : Pos p l e R s m args below meth c code Z EL wl hS own vm0 T locs cells' slots' h := ⟨P.1.mono hc hs, P.2⟩
theorem Pos.keep (P : Pos p l e R s m args below meth c code Z EL wl hS own vm0 T locs cells slots h) : Keep hS h wl := by
  obtain ⟨X, rfl, -, -, -, N, rfl, -⟩ := P
  have hsame := X.same
  have key : ∀ (x : Addr) (c0 : Cell), s.heap[x]? = some c0 → x ∉ wl → T.heap[x]? = some c0 := fun x c0 q r => by
    obtain ⟨c', h1, h2, -, h4⟩ := hsame.2.2.2.2.2 x c0 q
    have hb := (Array.getElem?_eq_some_iff.mp q).1
    have hsl : c'.slots = c0.slots := Array.ext_getElem? fun i => h4 i fun hm => (N _ hm).elim r (fun z => absurd hb (Nat.not_lt.mpr z))
    have hcc : c' = c0 := by rw [h2, hsl]
    rw [← hcc]; exact h1
  exact ⟨hsame.2.1, key, fun x c0 q => by
    obtain ⟨c', h1, h2, h3, -⟩ := hsame.2.2.2.2.2 x c0 q
    exact ⟨c', h1, by rw [h2], by rw [h2], h3⟩⟩
theorem Pos.ext0 (P : Pos p l e R s m args below meth c code Z EL [] hS own vm0 T locs cells slots h) : Ext hS h := ⟨P.keep.1, fun a c q => P.keep.2.1 a c q nin0⟩
theorem Pos.extZ (P : Pos p l e R s m args below meth c code Z EL wl hS own vm0 T locs cells slots h) (EZ : Ext Z.heap hS) (q : ∀ x ∈ wl, Z.heap.size ≤ x) : Ext Z.heap h := ⟨Nat.le_trans EZ.1 P.keep.1, fun a c r => P.keep.2.1 a c (EZ.2 a c r) fun z => absurd (Array.getElem?_eq_some_iff.mp r).1 (Nat.not_lt.mpr (q a z))⟩
/-- a step that leaves heap and tables of interned texts as they are -/
theorem Pos.same (P : Pos p l e R s m args below meth c code Z EL wl hS own vm0 T locs cells slots h) {T' : State} (X' : Stand p l e R (s.setVm vm0) m args below meth c T' locs cells slots) (e' : T'.heap = h) : Pos p l e R s m args below meth c code Z EL wl hS own vm0 T' locs cells slots h := by
  obtain ⟨X, eT, hsi, hZ, hown, N, n1, C, hx, hby⟩ := P; exact ⟨X', e', hsi, hZ, hown, N, n1, C, hx, hby⟩
theorem Pos.grown (P : Pos p l e R s m args below meth c code Z EL wl hS own vm0 T locs cells slots h) {T' : State} {h' : Heap} {cells' slots' : Nat} (X' : Stand p l e R (s.setVm vm0) m args below meth c T' locs cells' slots') (e' : T'.heap = h') (E : Ext h h') : Pos p l e R s m args below meth c code Z EL wl hS own vm0 T' locs cells' slots' h' := by
  obtain ⟨X, eT, hsi, hZ, hown, N, n1, C, hx, hby⟩ := P; obtain ⟨k0, q1, q2⟩ := hsi; exact ⟨X', e', ⟨k0, q1, Nat.le_trans q2 E.1⟩, hZ, hown, N, n1, C.trans (CHr.ext E C.1), hx, hby⟩
theorem Pos.wrote (P : Pos p l e R s m args below meth c code Z EL wl hS own vm0 T locs cells slots h) {T' : State} {h' : Heap} {a : Addr} {sl : Nat} {v : Value} (X' : Stand p l e R (s.setVm vm0) m args below meth c T' (locs ++ [⟨a, sl⟩]) cells slots) (e' : T'.heap = h') (Wq : Wr h h' a sl v) (ga : a ∈ wl ∨ hS.size ≤ a) (S : Safe Z EL vm0 h a) : Pos p l e R s m args below meth c code Z EL wl hS own vm0 T' (locs ++ [⟨a, sl⟩]) cells slots h' := by
  obtain ⟨X, eT, hsi, hZ, hown, N, n1, C, hx, hby⟩ := P; obtain ⟨k0, q1, q2⟩ := hsi; have hs := Wq.size; exact ⟨X', e', ⟨k0, q1, by omega⟩, hZ, hown, N.snoc ga, n1, C.trans (CHr.wr Wq S C.1), hx, hby⟩
theorem Pos.came (P : Pos p l e R s m args below meth c code Z EL wl hS own vm0 T locs cells slots h) {T' : State} {L : List Loc} {cells' slots' : Nat} (X' : Stand p l e R (s.setVm vm0) m args below meth c T' (locs ++ L) cells' slots') (F : Frw wl hS.size L) (C' : CHr Z EL vm0 h vm0 T'.heap) : Pos p l e R s m args below meth c code Z EL wl hS own vm0 T' (locs ++ L) cells' slots' T'.heap := by
  obtain ⟨X, eT, hsi, hZ, hown, N, n1, C, hx, hby⟩ := P; obtain ⟨k0, q1, q2⟩ := hsi; have hs := C'.2.1; exact ⟨X', rfl, ⟨k0, q1, Nat.le_trans q2 hs⟩, hZ, hown, N.app F, n1, C.trans C', hx, hby⟩
theorem Pos.cameW (P : Pos p l e R s m args below meth c code Z EL wl hS own vm0 T locs cells slots h) {T' : State} {L : List Loc} {cells' slots' : Nat} (X' : Stand p l e R ((s.setVm vm0).setVm T'.vm) m args below meth c T' (locs ++ L) cells' slots') (h2 : (s.setVm vm0).Since T'.vm T'.heap.size) (g : h.size ≤ T'.heap.size) (F : Frw wl hS.size L) (C' : CHr Z EL vm0 h T'.vm T'.heap) : Pos p l e R s m args below meth c code Z EL wl hS own T'.vm T' (locs ++ L) cells' slots' T'.heap := by
  obtain ⟨X, eT, hsi, hZ, hown, N, n1, C, hx, hby⟩ := P; obtain ⟨k0, q1, q2⟩ := hsi
  obtain ⟨y1, y2, y3, y4⟩ := rebS q1 q2 X' h2 g hZ hown
  exact ⟨y1, rfl, ⟨_, y2, Nat.le_refl _⟩, y3, y4, N.app F, n1, C.trans C', hx, hby⟩
theorem Pos.getF (P : Pos p l e R s m args below meth c code Z EL wl hS own vm0 T locs cells slots h) {R0 O n d host : String} {index : Nat} {a : Addr} {v : Value} (w : (Cond.fieldLink own index R0 n d).before a0 Z = true ∨ (Cond.fieldLinkNest own index R0 n d host).before a0 Z = true) (via : Via Z R0 O n d) (F : Fld Z h a O n d v) (hd : decode code pc = .ok (.getfield index, 3)) (hp : pc + 3 = pc1) (K : ∀ (T' : State), Pos p l e R s m args below meth c code Z EL wl hS own vm0 T' locs cells slots h → Go p.tables e below G (T'.setTop (mkF m pc1 ls (v :: st)))) : Go p.tables e below G (T.setTop (mkF m pc ls (.ref a :: st))) := by
  subst hp
  obtain ⟨T', X', e', stp⟩ := RoadKit.getF P.1 P.q.2.1 P.hz P.2.2.2.2.1 w via P.heap F (g := mkF m pc ls (.ref a :: st)) rfl rfl (hb P.q.2.2 hd)
  exact Go.via stp (K T' (P.same X' e'))
theorem Pos.getS (P : Pos p l e R s m args below meth c code Z EL wl hS own vm0 T locs cells slots h) {R0 O n d : String} {index : Nat} {v : Value} (w : (Cond.fieldLink own index R0 n d).before a0 Z = true) (via : Via Z R0 O n d) (F : Sta Z h O n d v) (hd : decode code pc = .ok (.getstatic index, 3)) (hp : pc + 3 = pc1) (K : ∀ (T' : State), Pos p l e R s m args below meth c code Z EL wl hS own vm0 T' locs cells slots h → Go p.tables e below G (T'.setTop (mkF m pc1 ls (v :: st)))) : Go p.tables e below G (T.setTop (mkF m pc ls st)) := by
  subst hp
  obtain ⟨T', X', e', stp⟩ := RoadKit.getS (host := "") P.1 P.q.2.1 P.hz P.2.2.2.2.1 w via P.heap F (g := mkF m pc ls st) rfl (hb P.q.2.2 hd)
  exact Go.via stp (K T' (P.same X' e'))
theorem Pos.putF (P : Pos p l e R s m args below meth c code Z EL wl hS own vm0 T locs cells slots h) {R0 O n d host C : String} {index kk : Nat} {ty : FieldType} {a : Addr} {v old : Value} (w : (Cond.fieldLink own index R0 n d).before a0 Z = true ∨ (Cond.fieldLinkNest own index R0 n d host).before a0 Z = true) (via : Via Z R0 O n d) (F : Fld Z h a O n d old) (E : Exa Z h a C) (L : (Cond.lays C O n d).before a0 Z = true ∨ ((Cond.laysFinal C O n d).before a0 Z = true ∧ own = O ∧ meth.name = "<init>")) (wi : (Cond.instantiable C kk).before a0 Z = true) (hty : parseFieldDescriptor d = some ty) (hn : narrow ty v = v) (hf : fits ty v = true) (ga : a ∈ wl ∨ hS.size ≤ a) (S : Safe Z EL vm0 h a) (hd : decode code pc = .ok (.putfield index, 3)) (hp : pc + 3 = pc1) (K : ∀ (T' : State) (h' : Heap), Pos p l e R s m args below meth c code Z EL wl hS own vm0 T' (locs ++ [⟨a, RoadKit.slotOf Z O n d⟩]) cells slots h' → Wr h h' a (RoadKit.slotOf Z O n d) v → Go p.tables e below G (T'.setTop (mkF m pc1 ls st))) : Go p.tables e below G (T.setTop (mkF m pc ls (v :: .ref a :: st))) := by
  subst hp
  obtain ⟨T', h', X', e', W', stp⟩ := RoadKit.putF P.1 P.q.2.1 P.hz P.2.2.2.2.1 w via P.heap F E L wi hty hn hf (g := mkF m pc ls (v :: .ref a :: st)) rfl rfl (hb P.q.2.2 hd)
  exact Go.via stp (K T' h' (P.wrote X' e' W' ga S) W')
theorem Pos.newO (P : Pos p l e R s m args below meth c code Z EL wl hS own vm0 T locs cells slots h) {C : String} {index n : Nat} (w : (Cond.classLink own index C).before a0 Z = true) (wi : (Cond.instantiable C n).before a0 Z = true) (wz : (Cond.initialized C).before a0 Z = true) (hc : cells + 1 ≤ R.cells) (hl : slots + n ≤ R.slots) (hd : decode code pc = .ok (.new index, 3)) (hp : pc + 3 = pc1) (K : ∀ (T' : State) (h' : Heap) (x : Addr), x = h.size → Pos p l e R s m args below meth c code Z EL wl hS own vm0 T' locs (cells + 1) (slots + n) h' → Ext h h' → Exa Z h' x C → (∀ {O nm d : String} {ty : FieldType}, Laid Z a0 C O nm d → parseFieldDescriptor d = some ty → Fld Z h' x O nm d (defaultValue ty)) → (∃ cell : Cell, h'[x]? = some cell ∧ cell.vm = .none ∧ cell.monitor = {}) → Go p.tables e below G (T'.setTop (mkF m pc1 ls (.ref x :: st)))) : Go p.tables e below G (T.setTop (mkF m pc ls st)) := by
  subst hp
  obtain ⟨T', h', X', e', E', A', D', U', stp⟩ := RoadKit.newO P.1 P.q.2.1 P.hz P.2.2.2.2.1 w wi wz P.heap (g := mkF m pc ls st) rfl (hb P.q.2.2 hd) hc hl
  exact Go.via stp (K T' h' _ rfl (P.grown X' e' E') E' A' D' U')
theorem Pos.newP (P : Pos p l e R s m args below meth c code Z EL wl hS own vm0 T locs cells slots h) {aty : ArrayType} {n : Int32} {cap : Nat} (w : (Cond.arrayClass (newarray.typeOf aty)).before a0 Z = true) (hn : ¬ n < 0) (hcap : n.toNatClampNeg ≤ cap) (hb8 : cap * 8 ≤ 536870912) (hc : cells + 1 ≤ R.cells) (hl : slots + cap ≤ R.slots) (hd : decode code pc = .ok (.newarray aty, 2)) (hp : pc + 2 = pc1) (K : ∀ (T' : State) (h' : Heap) (x : Addr) (k : ClassId), x = h.size → Pos p l e R s m args below meth c code Z EL wl hS own vm0 T' locs (cells + 1) (slots + cap) h' → Ext h h' → Arv Z h' x k (newarray.typeOf aty) n (List.replicate n.toNatClampNeg (defaultValue (newarray.typeOf aty))) (defaultValue (newarray.typeOf aty)) → Go p.tables e below G (T'.setTop (mkF m pc1 ls (.ref x :: st)))) : Go p.tables e below G (T.setTop (mkF m pc ls (.int n :: st))) := by
  subst hp
  obtain ⟨T', h', k, X', e', E', A', stp⟩ := RoadKit.newP P.1 P.q.2.1 P.hz w P.heap (g := mkF m pc ls (.int n :: st)) rfl (hb P.q.2.2 hd) rfl hn hcap hb8 hc hl
  exact Go.via stp (K T' h' _ k rfl (P.grown X' e' E') E' ((Arv.new A' hn).pad (pad_rep [] _ _)))
theorem Pos.stC (P : Pos p l e R s m args below meth c code Z EL wl hS own vm0 T locs cells slots h) {a : Addr} {k : ClassId} {z j : Int32} {x : Int32} {vs : List Value} {d : Value} {i : Nat} (V : Arv Z h a k .char z vs d) (hj : ¬ j < 0) (hi : j.toNatClampNeg = i) (hl : i < vs.length) (hz : z.toNatClampNeg = vs.length) (ga : a ∈ wl ∨ hS.size ≤ a) (S : Safe Z EL vm0 h a) (hd : decode code pc = .ok (.castore, 1)) (hp : pc + 1 = pc1) (K : ∀ (T' : State) (h' : Heap), Pos p l e R s m args below meth c code Z EL wl hS own vm0 T' (locs ++ [⟨a, j.toNatClampNeg⟩]) cells slots h' → Wr h h' a j.toNatClampNeg (.int (nar .char x)) → Arv Z h' a k .char z (vs.set i (.int (nar .char x))) d → Go p.tables e below G (T'.setTop (mkF m pc1 ls st))) : Go p.tables e below G (T.setTop (mkF m pc ls (.int x :: .int j :: .ref a :: st))) := by
  subst hp
  obtain ⟨cl, A, q1, S1, q3, H1, G1⟩ := V
  obtain ⟨T', h', X', e', W', stp⟩ := RoadKit.stC P.1 P.q.2.1 P.hz P.heap A (j := j) (x := x) (fun y => y.elim hj (fun y => by rw [S1] at y; omega)) (g := mkF m pc ls (.int x :: .int j :: .ref a :: st)) rfl rfl (hb P.q.2.2 hd)
  exact Go.via stp (K T' h' (P.wrote X' e' W' ga S) W' (Arv.set A q1 S1 q3 H1 G1 (fits_nar_char x) W' i hi hl))
theorem Pos.stB (P : Pos p l e R s m args below meth c code Z EL wl hS own vm0 T locs cells slots h) {a : Addr} {k : ClassId} {z j : Int32} {x : Int32} {vs : List Value} {d : Value} {i : Nat} (V : Arv Z h a k .byte z vs d) (hj : ¬ j < 0) (hi : j.toNatClampNeg = i) (hl : i < vs.length) (hz : z.toNatClampNeg = vs.length) (ga : a ∈ wl ∨ hS.size ≤ a) (S : Safe Z EL vm0 h a) (hd : decode code pc = .ok (.bastore, 1)) (hp : pc + 1 = pc1) (K : ∀ (T' : State) (h' : Heap), Pos p l e R s m args below meth c code Z EL wl hS own vm0 T' (locs ++ [⟨a, j.toNatClampNeg⟩]) cells slots h' → Wr h h' a j.toNatClampNeg (.int (nar .byte x)) → Arv Z h' a k .byte z (vs.set i (.int (nar .byte x))) d → Go p.tables e below G (T'.setTop (mkF m pc1 ls st))) : Go p.tables e below G (T.setTop (mkF m pc ls (.int x :: .int j :: .ref a :: st))) := by
  subst hp
  obtain ⟨cl, A, q1, S1, q3, H1, G1⟩ := V
  obtain ⟨T', h', X', e', W', stp⟩ := RoadKit.stB P.1 P.q.2.1 P.hz P.heap A (j := j) (x := x) (fun y => y.elim hj (fun y => by rw [S1] at y; omega)) (g := mkF m pc ls (.int x :: .int j :: .ref a :: st)) rfl rfl (hb P.q.2.2 hd)
  exact Go.via stp (K T' h' (P.wrote X' e' W' ga S) W' (Arv.set A q1 S1 q3 H1 G1 (fits_nar_byte x) W' i hi hl))
theorem Pos.stZ (P : Pos p l e R s m args below meth c code Z EL wl hS own vm0 T locs cells slots h) {a : Addr} {k : ClassId} {z j : Int32} {x : Int32} {vs : List Value} {d : Value} {i : Nat} (V : Arv Z h a k .boolean z vs d) (hj : ¬ j < 0) (hi : j.toNatClampNeg = i) (hl : i < vs.length) (hz : z.toNatClampNeg = vs.length) (ga : a ∈ wl ∨ hS.size ≤ a) (S : Safe Z EL vm0 h a) (hd : decode code pc = .ok (.bastore, 1)) (hp : pc + 1 = pc1) (K : ∀ (T' : State) (h' : Heap), Pos p l e R s m args below meth c code Z EL wl hS own vm0 T' (locs ++ [⟨a, j.toNatClampNeg⟩]) cells slots h' → Wr h h' a j.toNatClampNeg (.int (nar .boolean x)) → Arv Z h' a k .boolean z (vs.set i (.int (nar .boolean x))) d → Go p.tables e below G (T'.setTop (mkF m pc1 ls st))) : Go p.tables e below G (T.setTop (mkF m pc ls (.int x :: .int j :: .ref a :: st))) := by
  subst hp
  obtain ⟨cl, A, q1, S1, q3, H1, G1⟩ := V
  obtain ⟨T', h', X', e', W', stp⟩ := RoadKit.stZ P.1 P.q.2.1 P.hz P.heap A (j := j) (x := x) (fun y => y.elim hj (fun y => by rw [S1] at y; omega)) (g := mkF m pc ls (.int x :: .int j :: .ref a :: st)) rfl rfl (hb P.q.2.2 hd)
  exact Go.via stp (K T' h' (P.wrote X' e' W' ga S) W' (Arv.set A q1 S1 q3 H1 G1 (fits_nar_bool x) W' i hi hl))
theorem Pos.stI (P : Pos p l e R s m args below meth c code Z EL wl hS own vm0 T locs cells slots h) {a : Addr} {k : ClassId} {z j : Int32} {x : Int32} {vs : List Value} {d : Value} {i : Nat} (V : Arv Z h a k .int z vs d) (hj : ¬ j < 0) (hi : j.toNatClampNeg = i) (hl : i < vs.length) (hz : z.toNatClampNeg = vs.length) (ga : a ∈ wl ∨ hS.size ≤ a) (S : Safe Z EL vm0 h a) (hd : decode code pc = .ok (.iastore, 1)) (hp : pc + 1 = pc1) (K : ∀ (T' : State) (h' : Heap), Pos p l e R s m args below meth c code Z EL wl hS own vm0 T' (locs ++ [⟨a, j.toNatClampNeg⟩]) cells slots h' → Wr h h' a j.toNatClampNeg (.int x) → Arv Z h' a k .int z (vs.set i (.int x)) d → Go p.tables e below G (T'.setTop (mkF m pc1 ls st))) : Go p.tables e below G (T.setTop (mkF m pc ls (.int x :: .int j :: .ref a :: st))) := by
  subst hp
  obtain ⟨cl, A, q1, S1, q3, H1, G1⟩ := V
  obtain ⟨T', h', X', e', W', stp⟩ := RoadKit.stI P.1 P.q.2.1 P.hz P.heap A (j := j) (x := x) (fun y => y.elim hj (fun y => by rw [S1] at y; omega)) (g := mkF m pc ls (.int x :: .int j :: .ref a :: st)) rfl rfl (hb P.q.2.2 hd)
  exact Go.via stp (K T' h' (P.wrote X' e' W' ga S) W' (Arv.set A q1 S1 q3 H1 G1 (rfl) W' i hi hl))
theorem Pos.stJ (P : Pos p l e R s m args below meth c code Z EL wl hS own vm0 T locs cells slots h) {a : Addr} {k : ClassId} {z j : Int32} {x : Int64} {vs : List Value} {d : Value} {i : Nat} (V : Arv Z h a k .long z vs d) (hj : ¬ j < 0) (hi : j.toNatClampNeg = i) (hl : i < vs.length) (hz : z.toNatClampNeg = vs.length) (ga : a ∈ wl ∨ hS.size ≤ a) (S : Safe Z EL vm0 h a) (hd : decode code pc = .ok (.lastore, 1)) (hp : pc + 1 = pc1) (K : ∀ (T' : State) (h' : Heap), Pos p l e R s m args below meth c code Z EL wl hS own vm0 T' (locs ++ [⟨a, j.toNatClampNeg⟩]) cells slots h' → Wr h h' a j.toNatClampNeg (.long x) → Arv Z h' a k .long z (vs.set i (.long x)) d → Go p.tables e below G (T'.setTop (mkF m pc1 ls st))) : Go p.tables e below G (T.setTop (mkF m pc ls (.long x :: .int j :: .ref a :: st))) := by
  subst hp
  obtain ⟨cl, A, q1, S1, q3, H1, G1⟩ := V
  obtain ⟨T', h', X', e', W', stp⟩ := RoadKit.stJ P.1 P.q.2.1 P.hz P.heap A (j := j) (x := x) (fun y => y.elim hj (fun y => by rw [S1] at y; omega)) (g := mkF m pc ls (.long x :: .int j :: .ref a :: st)) rfl rfl (hb P.q.2.2 hd)
  exact Go.via stp (K T' h' (P.wrote X' e' W' ga S) W' (Arv.set A q1 S1 q3 H1 G1 (rfl) W' i hi hl))
theorem Pos.stD (P : Pos p l e R s m args below meth c code Z EL wl hS own vm0 T locs cells slots h) {a : Addr} {k : ClassId} {z j : Int32} {x : UInt64} {vs : List Value} {d : Value} {i : Nat} (V : Arv Z h a k .double z vs d) (hj : ¬ j < 0) (hi : j.toNatClampNeg = i) (hl : i < vs.length) (hz : z.toNatClampNeg = vs.length) (ga : a ∈ wl ∨ hS.size ≤ a) (S : Safe Z EL vm0 h a) (hd : decode code pc = .ok (.dastore, 1)) (hp : pc + 1 = pc1) (K : ∀ (T' : State) (h' : Heap), Pos p l e R s m args below meth c code Z EL wl hS own vm0 T' (locs ++ [⟨a, j.toNatClampNeg⟩]) cells slots h' → Wr h h' a j.toNatClampNeg (.double x) → Arv Z h' a k .double z (vs.set i (.double x)) d → Go p.tables e below G (T'.setTop (mkF m pc1 ls st))) : Go p.tables e below G (T.setTop (mkF m pc ls (.double x :: .int j :: .ref a :: st))) := by
  subst hp
  obtain ⟨cl, A, q1, S1, q3, H1, G1⟩ := V
  obtain ⟨T', h', X', e', W', stp⟩ := RoadKit.stD P.1 P.q.2.1 P.hz P.heap A (j := j) (x := x) (fun y => y.elim hj (fun y => by rw [S1] at y; omega)) (g := mkF m pc ls (.double x :: .int j :: .ref a :: st)) rfl rfl (hb P.q.2.2 hd)
  exact Go.via stp (K T' h' (P.wrote X' e' W' ga S) W' (Arv.set A q1 S1 q3 H1 G1 (rfl) W' i hi hl))
theorem Pos.stF (P : Pos p l e R s m args below meth c code Z EL wl hS own vm0 T locs cells slots h) {a : Addr} {k : ClassId} {z j : Int32} {x : UInt32} {vs : List Value} {d : Value} {i : Nat} (V : Arv Z h a k .float z vs d) (hj : ¬ j < 0) (hi : j.toNatClampNeg = i) (hl : i < vs.length) (hz : z.toNatClampNeg = vs.length) (ga : a ∈ wl ∨ hS.size ≤ a) (S : Safe Z EL vm0 h a) (hd : decode code pc = .ok (.fastore, 1)) (hp : pc + 1 = pc1) (K : ∀ (T' : State) (h' : Heap), Pos p l e R s m args below meth c code Z EL wl hS own vm0 T' (locs ++ [⟨a, j.toNatClampNeg⟩]) cells slots h' → Wr h h' a j.toNatClampNeg (.float x) → Arv Z h' a k .float z (vs.set i (.float x)) d → Go p.tables e below G (T'.setTop (mkF m pc1 ls st))) : Go p.tables e below G (T.setTop (mkF m pc ls (.float x :: .int j :: .ref a :: st))) := by
  subst hp
  obtain ⟨cl, A, q1, S1, q3, H1, G1⟩ := V
  obtain ⟨T', h', X', e', W', stp⟩ := RoadKit.stF P.1 P.q.2.1 P.hz P.heap A (j := j) (x := x) (fun y => y.elim hj (fun y => by rw [S1] at y; omega)) (g := mkF m pc ls (.float x :: .int j :: .ref a :: st)) rfl rfl (hb P.q.2.2 hd)
  exact Go.via stp (K T' h' (P.wrote X' e' W' ga S) W' (Arv.set A q1 S1 q3 H1 G1 (rfl) W' i hi hl))
theorem Pos.ldC (P : Pos p l e R s m args below meth c code Z EL wl hS own vm0 T locs cells slots h) {a : Addr} {k : ClassId} {z j : Int32} {vs : List Value} {d v : Value} (V : Arv Z h a k .char z vs d) (hj : ¬ j < 0) (hz : j.toNatClampNeg < z.toNatClampNeg) (hv : vs.getD j.toNatClampNeg d = v) (hd : decode code pc = .ok (.caload, 1)) (hp : pc + 1 = pc1) (K : Go p.tables e below G (T.setTop (mkF m pc1 ls (v :: st)))) : Go p.tables e below G (T.setTop (mkF m pc ls (.int j :: .ref a :: st))) := by
  subst hp
  obtain ⟨cl, A, q1, S1, q3, H1, G1⟩ := V
  exact Go.via (fun t k => P.1.caload P.q.2.1 (j := j) (v := v) (by rw [P.heap]; exact A.1) (State.isArrayOf_alike P.hz.alike A.2.1) A.2.2 (fun y => y.elim hj (fun y => by rw [S1] at y; omega)) (by rw [← hv]; exact H1 _ (by rw [S1]; exact hz)) (g := mkF m pc ls (.int j :: .ref a :: st)) rfl rfl (hb P.q.2.2 hd) t k) K
theorem Pos.ldB (P : Pos p l e R s m args below meth c code Z EL wl hS own vm0 T locs cells slots h) {a : Addr} {k : ClassId} {z j : Int32} {vs : List Value} {d v : Value} (V : Arv Z h a k .byte z vs d) (hj : ¬ j < 0) (hz : j.toNatClampNeg < z.toNatClampNeg) (hv : vs.getD j.toNatClampNeg d = v) (hd : decode code pc = .ok (.baload, 1)) (hp : pc + 1 = pc1) (K : Go p.tables e below G (T.setTop (mkF m pc1 ls (v :: st)))) : Go p.tables e below G (T.setTop (mkF m pc ls (.int j :: .ref a :: st))) := by
  subst hp
  obtain ⟨cl, A, q1, S1, q3, H1, G1⟩ := V
  exact Go.via (fun t k => P.1.baloadBytes P.q.2.1 (j := j) (v := v) (by rw [P.heap]; exact A.1) (State.isArrayOf_alike P.hz.alike A.2.1) A.2.2 (fun y => y.elim hj (fun y => by rw [S1] at y; omega)) (by rw [← hv]; exact H1 _ (by rw [S1]; exact hz)) (g := mkF m pc ls (.int j :: .ref a :: st)) rfl rfl (hb P.q.2.2 hd) t k) K
theorem Pos.ldZ (P : Pos p l e R s m args below meth c code Z EL wl hS own vm0 T locs cells slots h) {a : Addr} {k : ClassId} {z j : Int32} {vs : List Value} {d v : Value} (V : Arv Z h a k .boolean z vs d) (hj : ¬ j < 0) (hz : j.toNatClampNeg < z.toNatClampNeg) (hv : vs.getD j.toNatClampNeg d = v) (hd : decode code pc = .ok (.baload, 1)) (hp : pc + 1 = pc1) (K : Go p.tables e below G (T.setTop (mkF m pc1 ls (v :: st)))) : Go p.tables e below G (T.setTop (mkF m pc ls (.int j :: .ref a :: st))) := by
  subst hp
  obtain ⟨cl, A, q1, S1, q3, H1, G1⟩ := V
  exact Go.via (fun t k => P.1.baloadBooleans P.q.2.1 (j := j) (v := v) (by rw [P.heap]; exact A.1) (State.isArrayOf_alike P.hz.alike A.2.1) A.2.2 (fun y => y.elim hj (fun y => by rw [S1] at y; omega)) (by rw [← hv]; exact H1 _ (by rw [S1]; exact hz)) (g := mkF m pc ls (.int j :: .ref a :: st)) rfl rfl (hb P.q.2.2 hd) t k) K
theorem Pos.ldI (P : Pos p l e R s m args below meth c code Z EL wl hS own vm0 T locs cells slots h) {a : Addr} {k : ClassId} {z j : Int32} {vs : List Value} {d v : Value} (V : Arv Z h a k .int z vs d) (hj : ¬ j < 0) (hz : j.toNatClampNeg < z.toNatClampNeg) (hv : vs.getD j.toNatClampNeg d = v) (hd : decode code pc = .ok (.iaload, 1)) (hp : pc + 1 = pc1) (K : Go p.tables e below G (T.setTop (mkF m pc1 ls (v :: st)))) : Go p.tables e below G (T.setTop (mkF m pc ls (.int j :: .ref a :: st))) := by
  subst hp
  obtain ⟨cl, A, q1, S1, q3, H1, G1⟩ := V
  exact Go.via (fun t k => P.1.iaload P.q.2.1 (j := j) (v := v) (by rw [P.heap]; exact A.1) (State.isArrayOf_alike P.hz.alike A.2.1) A.2.2 (fun y => y.elim hj (fun y => by rw [S1] at y; omega)) (by rw [← hv]; exact H1 _ (by rw [S1]; exact hz)) (g := mkF m pc ls (.int j :: .ref a :: st)) rfl rfl (hb P.q.2.2 hd) t k) K
theorem Pos.ldJ (P : Pos p l e R s m args below meth c code Z EL wl hS own vm0 T locs cells slots h) {a : Addr} {k : ClassId} {z j : Int32} {vs : List Value} {d v : Value} (V : Arv Z h a k .long z vs d) (hj : ¬ j < 0) (hz : j.toNatClampNeg < z.toNatClampNeg) (hv : vs.getD j.toNatClampNeg d = v) (hd : decode code pc = .ok (.laload, 1)) (hp : pc + 1 = pc1) (K : Go p.tables e below G (T.setTop (mkF m pc1 ls (v :: st)))) : Go p.tables e below G (T.setTop (mkF m pc ls (.int j :: .ref a :: st))) := by
  subst hp
  obtain ⟨cl, A, q1, S1, q3, H1, G1⟩ := V
  exact Go.via (fun t k => P.1.laload P.q.2.1 (j := j) (v := v) (by rw [P.heap]; exact A.1) (State.isArrayOf_alike P.hz.alike A.2.1) A.2.2 (fun y => y.elim hj (fun y => by rw [S1] at y; omega)) (by rw [← hv]; exact H1 _ (by rw [S1]; exact hz)) (g := mkF m pc ls (.int j :: .ref a :: st)) rfl rfl (hb P.q.2.2 hd) t k) K
theorem Pos.ldD (P : Pos p l e R s m args below meth c code Z EL wl hS own vm0 T locs cells slots h) {a : Addr} {k : ClassId} {z j : Int32} {vs : List Value} {d v : Value} (V : Arv Z h a k .double z vs d) (hj : ¬ j < 0) (hz : j.toNatClampNeg < z.toNatClampNeg) (hv : vs.getD j.toNatClampNeg d = v) (hd : decode code pc = .ok (.daload, 1)) (hp : pc + 1 = pc1) (K : Go p.tables e below G (T.setTop (mkF m pc1 ls (v :: st)))) : Go p.tables e below G (T.setTop (mkF m pc ls (.int j :: .ref a :: st))) := by
  subst hp
  obtain ⟨cl, A, q1, S1, q3, H1, G1⟩ := V
  exact Go.via (fun t k => P.1.daload P.q.2.1 (j := j) (v := v) (by rw [P.heap]; exact A.1) (State.isArrayOf_alike P.hz.alike A.2.1) A.2.2 (fun y => y.elim hj (fun y => by rw [S1] at y; omega)) (by rw [← hv]; exact H1 _ (by rw [S1]; exact hz)) (g := mkF m pc ls (.int j :: .ref a :: st)) rfl rfl (hb P.q.2.2 hd) t k) K
theorem Pos.ldF (P : Pos p l e R s m args below meth c code Z EL wl hS own vm0 T locs cells slots h) {a : Addr} {k : ClassId} {z j : Int32} {vs : List Value} {d v : Value} (V : Arv Z h a k .float z vs d) (hj : ¬ j < 0) (hz : j.toNatClampNeg < z.toNatClampNeg) (hv : vs.getD j.toNatClampNeg d = v) (hd : decode code pc = .ok (.faload, 1)) (hp : pc + 1 = pc1) (K : Go p.tables e below G (T.setTop (mkF m pc1 ls (v :: st)))) : Go p.tables e below G (T.setTop (mkF m pc ls (.int j :: .ref a :: st))) := by
  subst hp
  obtain ⟨cl, A, q1, S1, q3, H1, G1⟩ := V
  exact Go.via (fun t k => P.1.faload P.q.2.1 (j := j) (v := v) (by rw [P.heap]; exact A.1) (State.isArrayOf_alike P.hz.alike A.2.1) A.2.2 (fun y => y.elim hj (fun y => by rw [S1] at y; omega)) (by rw [← hv]; exact H1 _ (by rw [S1]; exact hz)) (g := mkF m pc ls (.int j :: .ref a :: st)) rfl rfl (hb P.q.2.2 hd) t k) K
theorem Pos.len (P : Pos p l e R s m args below meth c code Z EL wl hS own vm0 T locs cells slots h) {a : Addr} {k : ClassId} {ty : FieldType} {z : Int32} {vs : List Value} {d : Value} (V : Arv Z h a k ty z vs d) (hd : decode code pc = .ok (.arraylength, 1)) (hp : pc + 1 = pc1) (K : Go p.tables e below G (T.setTop (mkF m pc1 ls (.int z :: st)))) : Go p.tables e below G (T.setTop (mkF m pc ls (.ref a :: st))) := by
  subst hp
  obtain ⟨cl, A, q1, S1, q3, H1, G1⟩ := V
  rw [← len_of S1 q3] at K
  exact Go.via (fun t k => P.1.arraylength P.q.2.1 (cell := cl) (by rw [P.heap]; exact A.1) (State.isArrayOf_alike P.hz.alike A.2.1) (g := mkF m pc ls (.ref a :: st)) rfl (rest := st) rfl (hb P.q.2.2 hd) t k) K
theorem Pos.initO (P : Pos p l e R s m args below meth c code Z EL wl hS own vm0 T locs cells slots h) {idx : Nat} {a : Addr} {W : Nat} (w1 : (Cond.methodLink own idx Lib.objectInit).before a0 Z = true) (w2 : (Cond.instanceMethod Lib.objectInit).before a0 Z = true) (w3 : (Cond.code Lib.objectInit ⟨#[0xb1]⟩ 1 none).before a0 Z = true) (hsize : ls.size = c.maxLocals) (hf : 1 ≤ R.frames) (hW : (st.map fun v => v.category).sum ≤ W) (hl : W + 12 ≤ R.locals) (hd : decode code pc = .ok (.invokespecial idx, 3)) (hp : pc + 3 = pc1) (K : ∀ (T' : State), Pos p l e R s m args below meth c code Z EL wl hS own vm0 T' locs cells slots h → Go p.tables e below G (T'.setTop (mkF m pc1 ls st))) : Go p.tables e below G (T.setTop (mkF m pc ls (.ref a :: st))) := by
  subst hp
  obtain ⟨T', X', e', stp⟩ := RoadKit.initO P.1 P.q.2.1 P.hz P.2.2.2.2.1 w1 w2 w3 P.heap (g := mkF m pc ls (.ref a :: st)) rfl hsize rfl (hb P.q.2.2 hd) hf (W := W) (by show 2 * 0 + _ ≤ _; omega) hl
  exact Go.via stp (K T' (P.same X' e'))
theorem Pos.castY (P : Pos p l e R s m args below meth c code Z EL wl hS own vm0 T locs cells slots h) {C : String} {index : Nat} {a : Addr} (w : (Cond.classLink own index C).before a0 Z = true) (F : Ins Z h a C true) (hd : decode code pc = .ok (.checkcast index, 3)) (hp : pc + 3 = pc1) (K : ∀ (T' : State), Pos p l e R s m args below meth c code Z EL wl hS own vm0 T' locs cells slots h → Go p.tables e below G (T'.setTop (mkF m pc1 ls (.ref a :: st)))) : Go p.tables e below G (T.setTop (mkF m pc ls (.ref a :: st))) := by
  subst hp
  obtain ⟨T', X', e', stp⟩ := RoadKit.castY P.1 P.q.2.1 P.hz P.2.2.2.2.1 w P.heap F (g := mkF m pc ls (.ref a :: st)) rfl rfl (hb P.q.2.2 hd)
  exact Go.via stp (K T' (P.same X' e'))
theorem Pos.instY (P : Pos p l e R s m args below meth c code Z EL wl hS own vm0 T locs cells slots h) {C : String} {index : Nat} {a : Addr} (w : (Cond.classLink own index C).before a0 Z = true) (F : Ins Z h a C true) (hd : decode code pc = .ok (.instanceof index, 3)) (hp : pc + 3 = pc1) (K : ∀ (T' : State), Pos p l e R s m args below meth c code Z EL wl hS own vm0 T' locs cells slots h → Go p.tables e below G (T'.setTop (mkF m pc1 ls (.int 1 :: st)))) : Go p.tables e below G (T.setTop (mkF m pc ls (.ref a :: st))) := by
  subst hp
  obtain ⟨T', X', e', stp⟩ := RoadKit.instY P.1 P.q.2.1 P.hz P.2.2.2.2.1 w P.heap F (g := mkF m pc ls (.ref a :: st)) rfl rfl (hb P.q.2.2 hd)
  exact Go.via stp (K T' (P.same X' e'))
theorem Pos.instNull (P : Pos p l e R s m args below meth c code Z EL wl hS own vm0 T locs cells slots h) {index : Nat} (hd : decode code pc = .ok (.instanceof index, 3)) (hp : pc + 3 = pc1) (K : Go p.tables e below G (T.setTop (mkF m pc1 ls (.int 0 :: st)))) : Go p.tables e below G (T.setTop (mkF m pc ls (.null :: st))) := by
  subst hp; exact Go.via (P.1.instanceofNull P.q.2.1 (g := mkF m pc ls (.null :: st)) rfl rfl (hb P.q.2.2 hd)) K
theorem Pos.castNull (P : Pos p l e R s m args below meth c code Z EL wl hS own vm0 T locs cells slots h) {index : Nat} (hd : decode code pc = .ok (.checkcast index, 3)) (hp : pc + 3 = pc1) (K : Go p.tables e below G (T.setTop (mkF m pc1 ls (.null :: st)))) : Go p.tables e below G (T.setTop (mkF m pc ls (.null :: st))) := by
  subst hp; exact Go.via (P.1.checkcastNull P.q.2.1 (g := mkF m pc ls (.null :: st)) rfl rfl (hb P.q.2.2 hd)) K
theorem Pos.instNo (P : Pos p l e R s m args below meth c code Z EL wl hS own vm0 T locs cells slots h) {C D : String} {index : Nat} {a : Addr} (w : (Cond.classLink own index C).before a0 Z = true) (E : Exa Z h a D) (F : ∃ c t, Z.vm.findClass D = some c ∧ Z.vm.findClass C = some t ∧ Z.vm.assignable c t = false) (hd : decode code pc = .ok (.instanceof index, 3)) (hp : pc + 3 = pc1) (K : ∀ (T' : State), Pos p l e R s m args below meth c code Z EL wl hS own vm0 T' locs cells slots h → Go p.tables e below G (T'.setTop (mkF m pc1 ls (.int 0 :: st)))) : Go p.tables e below G (T.setTop (mkF m pc ls (.ref a :: st))) := by
  subst hp
  obtain ⟨T', X', e', stp⟩ := RoadKit.instNo P.1 P.q.2.1 P.hz P.2.2.2.2.1 w P.heap E F (g := mkF m pc ls (.ref a :: st)) rfl rfl (hb P.q.2.2 hd)
  exact Go.via stp (K T' (P.same X' e'))
theorem Pos.exc1 (P : Pos p l e R s m args below meth c code Z EL wl hS own vm0 T locs cells slots h) (htr : l.stackTraces = true) {rc : String} {links : List Jvm.Free.Exc.Link} {ic n : Nat} (hok : Jvm.Free.Exc.linksOk 1 links = true) (w1 : (Cond.methodLink own ic (Jvm.Free.Exc.ctor 1 (Jvm.Free.Exc.headName links))).before a0 Z = true) (w2 : (Cond.instanceMethod (Jvm.Free.Exc.ctor 1 (Jvm.Free.Exc.headName links))).before a0 Z = true) (wT : (Jvm.Free.Exc.chainTab 1 rc links).before a0 Z = true) (wi : (Cond.instantiable rc n).before a0 Z = true) (r : ∀ d ∈ twoRefs, d.before a0 Z = true)
    (hT0 : ThS Z hS) (hT : ThS Z h) (hTK : vm0.MethodsKnown) (hBelow : vm0.FramesKnown below) {a : Addr} (E : Exa Z h a rc) (N : Unt h a) (B : Fld Z h a Bundle.tN "backtrace" Jvm.Free.Exc.obD .null) (B2 : Fld Z h a Bundle.tN "detailMessage" Jvm.Free.Exc.msgD .null) {msg : Value} (hmsg : msg.isRef = true) (ga : a ∈ wl ∨ hS.size ≤ a) (S : Safe Z EL vm0 h a)
    (hsize : ls.size = c.maxLocals) {W : Nat} (hW : (st.map fun v => v.category).sum ≤ W) (hf : 4 + links.length ≤ R.frames) (hlo : W + (56 + 14 * links.length) ≤ R.locals) (hc : cells + 1 ≤ R.cells) (hsl : slots + 2752 ≤ R.slots) (hd : decode code pc = .ok (.invokespecial ic, 3)) (hp : pc + 3 = pc1)
    (K : ∀ (T' : State) (h' : Heap), Pos p l e R s m args below meth c code Z EL wl hS own vm0 T' (locs ++ sixLocs Z a) (cells + 1) (slots + 2752) h' → Kp Z h h' a → Exa Z h' a rc → Unt h' a → Fld Z h' a Bundle.tN "detailMessage" Jvm.Free.Exc.msgD msg → ThS Z h' → Go p.tables e below G (T'.setTop (mkF m pc1 ls st))) : Go p.tables e below G (T.setTop (mkF m pc ls (msg :: .ref a :: st))) := by
  subst hp
  obtain ⟨T', h', X', e', K', E', N', M', -, hT', stp⟩ := RoadKit.excL1 P.1 P.q.2.1 htr P.hz P.2.2.2.2.1 hok w1 w2 wT wi r (by have q := P.2.2.2.2.2.2.1; show ThS Z s.heap; rw [q]; exact hT0) hT hTK hBelow P.heap E N B B2 hmsg (g := mkF m pc ls (msg :: .ref a :: st)) rfl hsize rfl (hb P.q.2.2 hd) hf (by show 2 * 0 + _ + _ ≤ _; omega) hc hsl
  refine Go.via stp (K T' h' ?_ K' E' N' M' hT')
  have C' : CHr Z EL vm0 h vm0 h' := CHr.keep (keep_of_kp K') (sfS S sf0) P.chv
  obtain ⟨X, eT, hsi, hZ, hown, N, n1, C, hx, hby⟩ := P; obtain ⟨k0, q1, q2⟩ := hsi
  exact ⟨X', e', ⟨k0, q1, Nat.le_trans q2 C'.2.1⟩, hZ, hown, N.app (fun y hy => by obtain ⟨nd, -, rfl⟩ := List.mem_map.mp hy; exact ga), n1, C.trans C', hx, hby⟩
theorem Pos.alS (P : Pos p l e R s m args below meth c code Z EL wl hS own vm0 T locs cells slots h) : s.vm.Alike vm0 := by obtain ⟨k0, q1, q2⟩ := P.2.2.1; exact q1.1.alike
theorem Pos.ldcI (P : Pos p l e R s m args below meth c code Z EL wl hS own vm0 T locs cells slots h) {index : Nat} {v : Int32} (w : (Cond.constant own index v).before a0 Z = true) (hd : decode code pc = .ok (.ldc index, 2)) (hp : pc + 2 = pc1) (K : Go p.tables e below G (T.setTop (mkF m pc1 ls (.int v :: st)))) : Go p.tables e below G (T.setTop (mkF m pc ls st)) := by
  subst hp; exact Go.via (P.1.ldcInt P.q.2.1 P.2.2.2.2.1 (mvT P.hz w) (g := mkF m pc ls st) rfl (hb P.q.2.2 hd)) K
theorem Pos.ldc2J (P : Pos p l e R s m args below meth c code Z EL wl hS own vm0 T locs cells slots h) {index : Nat} {v : Int64} (w : (Cond.constantLong own index v).before a0 Z = true) (hd : decode code pc = .ok (.ldc2_w index, 3)) (hp : pc + 3 = pc1) (K : Go p.tables e below G (T.setTop (mkF m pc1 ls (.long v :: st)))) : Go p.tables e below G (T.setTop (mkF m pc ls st)) := by
  subst hp; exact Go.via (P.1.ldc2Long P.q.2.1 P.2.2.2.2.1 (mvT P.hz w) (g := mkF m pc ls st) rfl (hb P.q.2.2 hd)) K
theorem Pos.ldcF (P : Pos p l e R s m args below meth c code Z EL wl hS own vm0 T locs cells slots h) {index : Nat} {v : UInt32} (w : (Cond.constantFloat own index v).before a0 Z = true) (hd : decode code pc = .ok (.ldc index, 2)) (hp : pc + 2 = pc1) (K : Go p.tables e below G (T.setTop (mkF m pc1 ls (.float v :: st)))) : Go p.tables e below G (T.setTop (mkF m pc ls st)) := by
  subst hp; exact Go.via (P.1.ldcFloatC P.q.2.1 P.2.2.2.2.1 (mvT P.hz w) (g := mkF m pc ls st) rfl (hb P.q.2.2 hd)) K
theorem Pos.ldc2D (P : Pos p l e R s m args below meth c code Z EL wl hS own vm0 T locs cells slots h) {index : Nat} {v : UInt64} (w : (Cond.constantDouble own index v).before a0 Z = true) (hd : decode code pc = .ok (.ldc2_w index, 3)) (hp : pc + 3 = pc1) (K : Go p.tables e below G (T.setTop (mkF m pc1 ls (.double v :: st)))) : Go p.tables e below G (T.setTop (mkF m pc ls st)) := by
  subst hp; exact Go.via (P.1.ldc2DoubleC P.q.2.1 P.2.2.2.2.1 (mvT P.hz w) (g := mkF m pc ls st) rfl (hb P.q.2.2 hd)) K
theorem Pos.ldcO (P : Pos p l e R s m args below meth c code Z EL wl hS own vm0 T locs cells slots h) {index : Nat} {text : String} {n : Nat} (w : (Cond.stringLink own index text).before a0 Z = true) (wS : ∀ a ∈ Bundle.stringAtoms, a.before a0 Z = true) (hEL : EW Z a0 EL) (hn : 4 * text.toList.length ≤ n) (hbig : n ≤ 536870912) (hc : cells + 2 ≤ R.cells) (hl : slots + (n + 4) ≤ R.slots) (hd : decode code pc = .ok (.ldc index, 2)) (hp : pc + 2 = pc1)
    (K : ∀ (a : Addr) (T' : State) (h' : Heap), Pos p l e R s m args below meth c code Z EL wl hS own T'.vm T' locs (cells + 2) (slots + (n + 4)) h' → Ext h h' → CHr Z EL vm0 h T'.vm h' → Lit (s.setVm T'.vm) own index a → Go p.tables e below G (T'.setTop (mkF m pc1 ls (.ref a :: st)))) : Go p.tables e below G (T.setTop (mkF m pc ls st)) := by
  subst hp
  obtain ⟨X, eT, hsi, hZ, hown, N, n1, C, hx, hby⟩ := P
  obtain ⟨k0, q1, q2⟩ := hsi
  obtain ⟨a, T', h', k1, X', e', E', hS2, hk2, hW, hf, hC, hL, stp⟩ := RoadKit.ldcOH X hx hZ hown w wS eT q1 q2 hEL C.1 (g := mkF m pc ls st) rfl (hb hby hd) hn hbig hc hl
  exact Go.via stp (K a T' h' ⟨X', e', ⟨k1, hS2, hk2⟩, hW, hf, N, n1, C.trans hC, hx, hby⟩ E' hC hL)
theorem Pos.ldcR (P : Pos p l e R s m args below meth c code Z EL wl hS own vm0 T locs cells slots h) {index : Nat} {text : String} {n : Nat} (w : (Cond.stringLink own index text).before a0 Z = true) (wS : ∀ a ∈ Bundle.stringAtoms, a.before a0 Z = true) (hEL : EW Z a0 EL) (hmem : (own, index) ∈ EL) {vs : List Value} {z : Int32} (ht : (∀ c ∈ text.toList, c.toNat < 256) ∧ text.toList.map (fun c => Value.int (Jvm.Lit.byteI c.toNat.toUInt16)) = vs) (hz : ¬ z < 0) (hlz : z.toNatClampNeg = vs.length) (hn : 4 * text.toList.length ≤ n) (hbig : n ≤ 536870912) (hc : cells + 2 ≤ R.cells) (hl : slots + (n + 4) ≤ R.slots) (hd : decode code pc = .ok (.ldc index, 2)) (hp : pc + 2 = pc1)
    (K : ∀ (a : Addr) (T' : State) (h' : Heap) (b : Addr) (k : ClassId), Pos p l e R s m args below meth c code Z EL wl hS own T'.vm T' locs (cells + 2) (slots + (n + 4)) h' → Ext h h' → CHr Z EL vm0 h T'.vm h' → Exa Z h' a "java/lang/String" → Fld Z h' a "java/lang/String" "coder" "B" (.int 0) → Fld Z h' a "java/lang/String" "value" "[B" (.ref b) → Arv Z h' b k .byte z vs (.int 0) → (∀ x, Safe Z EL T'.vm h' x → x ≠ a ∧ x ≠ b) → Lit (s.setVm T'.vm) own index a → Go p.tables e below G (T'.setTop (mkF m pc1 ls (.ref a :: st)))) : Go p.tables e below G (T.setTop (mkF m pc ls st)) := by
  subst hp
  obtain ⟨X, eT, hsi, hZ, hown, N, n1, C, hx, hby⟩ := P
  obtain ⟨k0, q1, q2⟩ := hsi
  obtain ⟨a, T', h', k1, b, k, X', e', E', hS2, hk2, hW, hf, y1, y2, y3, y4, -, -, hC, hL, hne, stp⟩ := RoadKit.ldcCH X hx hZ hown w wS eT q1 q2 hEL hmem C.1 ht hz hlz (g := mkF m pc ls st) rfl (hb hby hd) hn hbig hc hl
  exact Go.via stp (K a T' h' b k ⟨X', e', ⟨k1, hS2, hk2⟩, hW, hf, N, n1, C.trans hC, hx, hby⟩ E' hC y1 y2 y3 y4 hne hL)
theorem Pos.callS (P : Pos p l e R s m args below meth c code Z EL wl hS own vm0 T locs cells slots h) {index : Nat} {y : MethodName} {bytes : ByteArray} {maxL : Nat} {ret : Option FieldType} {as' : Array Value} {rc rs W : Nat} {Q : Option Value → Heap → List Loc → Prop} {argsL st0 : List Value} (w1 : (Cond.methodLink own index y).before a0 Z = true) (w2 : (Cond.static y).before a0 Z = true) (w3 : (Cond.initialized y.cls).before a0 Z = true) (w4 : (Cond.code y bytes maxL ret).before a0 Z = true) (hy : y.cls ≠ "java/lang/invoke/MethodHandle" ∧ y.cls ≠ "java/lang/invoke/VarHandle") (hK : Back l R p e below (s.setVm vm0) args y 3 W (fun A a => a = as' ∧ A.U.heap = h ∧ A.cells + rc ≤ R.cells ∧ A.slots + rs ≤ R.slots) (fun A _ v B => ∃ L, Q v B.U.heap L ∧ B.locs = A.locs ++ L ∧ B.cells = A.cells + rc ∧ B.slots = A.slots + rs)) (hlen : ∀ sig, parseMethodDescriptor y.desc = some sig → argsL.length = sig.parameters.length) (hst : st = argsL.reverse ++ st0) (has : argsL.toArray = as') (hW : (st0.map fun v => v.category).sum ≤ W) (hsize : ls.size = c.maxLocals) (hc : cells + rc ≤ R.cells) (hs : slots + rs ≤ R.slots) (hF : ∀ v h' L, Q v h' L → Frw wl hS.size L ∧ CHr Z EL vm0 h vm0 h') (hd : decode code pc = .ok (.invokestatic index, 3)) (hp : pc + 3 = pc1)
    (K : ∀ (v : Option Value) (T' : State) (h' : Heap) (L : List Loc), Q v h' L → Pos p l e R s m args below meth c code Z EL wl hS own vm0 T' (locs ++ L) (cells + rc) (slots + rs) h' → Go p.tables e below G (T'.setTop (mkF m pc1 ls (v.toList ++ st0)))) : Go p.tables e below G (T.setTop (mkF m pc ls st)) := by
  subst hp
  obtain ⟨v, vm₁, ⟨U, Lx, cx, sx⟩, -, X', ⟨L, hQ, l1, l2, l3⟩, stp⟩ := Jvm.LawKit.callS P.1 P.q.2.1 P.2.2.2.2.1 (mvT P.hz w1) (mvT P.hz w2) (mvT P.hz w3) (mvT P.hz w4) hy hK (g := mkF m pc ls st) rfl hsize (argsL := argsL) (rest := st0) hlen hst (by show 2 * 0 + _ ≤ _; omega) (hb P.q.2.2 hd) (fun _ _ => ⟨has, P.heap, hc, hs⟩)
  dsimp only [Pt.U, Pt.locs, Pt.cells, Pt.slots] at *
  subst l1 l2 l3
  exact Go.via stp (K v U _ L hQ (P.came X' (hF _ _ _ hQ).1 (hF _ _ _ hQ).2))
theorem Pos.callN (P : Pos p l e R s m args below meth c code Z EL wl hS own vm0 T locs cells slots h) {index : Nat} {y : MethodName} {bytes : ByteArray} {maxL : Nat} {x : Addr} {as' : Array Value} {rc rs W : Nat} {Q : Option Value → Heap → List Loc → Prop} {argsL st0 : List Value} (hy1 : y.name = "<init>") (w1 : (Cond.methodLink own index y).before a0 Z = true) (w2 : (Cond.instanceMethod y).before a0 Z = true) (w4 : (Cond.code y bytes maxL none).before a0 Z = true) (hy : y.cls ≠ "java/lang/invoke/MethodHandle" ∧ y.cls ≠ "java/lang/invoke/VarHandle") (hK : Back l R p e below (s.setVm vm0) args y 3 W (fun A a => a = as' ∧ A.U.heap = h ∧ A.cells + rc ≤ R.cells ∧ A.slots + rs ≤ R.slots) (fun A _ v B => ∃ L, Q v B.U.heap L ∧ B.locs = A.locs ++ L ∧ B.cells = A.cells + rc ∧ B.slots = A.slots + rs)) (hlen : ∀ sig, parseMethodDescriptor y.desc = some sig → argsL.length = sig.parameters.length) (hst : st = argsL.reverse ++ .ref x :: st0) (has : (.ref x :: argsL).toArray = as') (hW : (st0.map fun v => v.category).sum ≤ W) (hsize : ls.size = c.maxLocals) (hc : cells + rc ≤ R.cells) (hs : slots + rs ≤ R.slots) (hF : ∀ v h' L, Q v h' L → Frw wl hS.size L ∧ CHr Z EL vm0 h vm0 h') (hd : decode code pc = .ok (.invokespecial index, 3)) (hp : pc + 3 = pc1)
    (K : ∀ (v : Option Value) (T' : State) (h' : Heap) (L : List Loc), Q v h' L → Pos p l e R s m args below meth c code Z EL wl hS own vm0 T' (locs ++ L) (cells + rc) (slots + rs) h' → Go p.tables e below G (T'.setTop (mkF m pc1 ls (v.toList ++ st0)))) : Go p.tables e below G (T.setTop (mkF m pc ls st)) := by
  subst hp
  obtain ⟨v, vm₁, ⟨U, Lx, cx, sx⟩, -, X', ⟨L, hQ, l1, l2, l3⟩, stp⟩ := Stand.specialBack P.1 P.q.2.1 hy1 P.2.2.2.2.1 (mvT P.hz w1) (mvT P.hz w2) (mvT P.hz w4) hy hK (g := mkF m pc ls st) rfl hsize (Steps.refl _) (a := x) (argsL := argsL) (rest := st0) hlen hst (by show 2 * 0 + _ ≤ _; omega) (hb P.q.2.2 hd) (fun _ _ => ⟨has, P.heap, hc, hs⟩)
  dsimp only [Pt.U, Pt.locs, Pt.cells, Pt.slots] at *
  subst l1 l2 l3
  exact Go.tr stp (K v U _ L hQ (P.came X' (hF _ _ _ hQ).1 (hF _ _ _ hQ).2))
theorem Pos.callV (P : Pos p l e R s m args below meth c code Z EL wl hS own vm0 T locs cells slots h) {index : Nat} {y z : MethodName} {x : Addr} {C : String} {as' : Array Value} {rc rs W : Nat} {Q : Option Value → Heap → List Loc → Prop} {argsL st0 : List Value} (E : Exa Z h x C) (w1 : (Cond.methodLink own index y).before a0 Z = true) (w2 : (Cond.declares y).before a0 Z = true) (w3 : (Cond.selects C y z).before a0 Z = true) (w4 : (Cond.instanceMethod z).before a0 Z = true) (nf : NotFace (s.setVm vm0) y) (hy : y.cls ≠ "java/lang/invoke/MethodHandle" ∧ y.cls ≠ "java/lang/invoke/VarHandle") (hK : Back l R p e below (s.setVm vm0) args z 3 W (fun A a => a = as' ∧ A.U.heap = h ∧ A.cells + rc ≤ R.cells ∧ A.slots + rs ≤ R.slots) (fun A _ v B => ∃ L, Q v B.U.heap L ∧ B.locs = A.locs ++ L ∧ B.cells = A.cells + rc ∧ B.slots = A.slots + rs)) (hlen : ∀ sig, parseMethodDescriptor y.desc = some sig → argsL.length = sig.parameters.length) (hst : st = argsL.reverse ++ .ref x :: st0) (has : (.ref x :: argsL).toArray = as') (hW : (st0.map fun v => v.category).sum ≤ W) (hsize : ls.size = c.maxLocals) (hc : cells + rc ≤ R.cells) (hs : slots + rs ≤ R.slots) (hF : ∀ v h' L, Q v h' L → Frw wl hS.size L ∧ CHr Z EL vm0 h vm0 h') (hd : decode code pc = .ok (.invokevirtual index, 3)) (hp : pc + 3 = pc1)
    (K : ∀ (v : Option Value) (T' : State) (h' : Heap) (L : List Loc), Q v h' L → Pos p l e R s m args below meth c code Z EL wl hS own vm0 T' (locs ++ L) (cells + rc) (slots + rs) h' → Go p.tables e below G (T'.setTop (mkF m pc1 ls (v.toList ++ st0)))) : Go p.tables e below G (T.setTop (mkF m pc ls st)) := by
  subst hp
  obtain ⟨cq, kq, qa, qb, qc⟩ := isOf P.hz P.heap E
  obtain ⟨v, vm₁, ⟨U, Lx, cx, sx⟩, -, X', ⟨L, hQ, l1, l2, l3⟩, stp⟩ := Stand.virtualBack P.1 P.q.2.1 (y := y) (z := z) P.2.2.2.2.1 (mvT P.hz w1) (mvT P.hz w2) nf (mvT P.hz w3) (mvT P.hz w4) hy hK qa qc (g := mkF m pc ls st) rfl hsize (Steps.refl _) (argsL := argsL) (rest := st0) hlen hst (by show 2 * 0 + _ ≤ _; omega) (hb P.q.2.2 hd) (fun _ _ => ⟨has, P.heap, hc, hs⟩)
  dsimp only [Pt.U, Pt.locs, Pt.cells, Pt.slots] at *
  subst l1 l2 l3
  exact Go.tr stp (K v U _ L hQ (P.came X' (hF _ _ _ hQ).1 (hF _ _ _ hQ).2))
theorem Pos.callVU (P : Pos p l e R s m args below meth c code Z EL wl hS own vm0 T locs cells slots h) {index : Nat} {y z : MethodName} {x : Addr} {C owner : String} {as' : Array Value} {rc rs W : Nat} {Q : Option Value → Heap → List Loc → Prop} {argsL st0 : List Value} (E : Exa Z h x C) (w1 : (Cond.methodLink own index y).before a0 Z = true) (w2 : (Cond.sameMethod y.cls owner y.name y.desc).before a0 Z = true) (w5 : (Cond.declares ⟨owner, y.name, y.desc⟩).before a0 Z = true) (hy : owner ≠ "java/lang/invoke/MethodHandle" ∧ owner ≠ "java/lang/invoke/VarHandle") (w3 : (Cond.selects C y z).before a0 Z = true) (w4 : (Cond.instanceMethod z).before a0 Z = true) (hK : Back l R p e below (s.setVm vm0) args z 3 W (fun A a => a = as' ∧ A.U.heap = h ∧ A.cells + rc ≤ R.cells ∧ A.slots + rs ≤ R.slots) (fun A _ v B => ∃ L, Q v B.U.heap L ∧ B.locs = A.locs ++ L ∧ B.cells = A.cells + rc ∧ B.slots = A.slots + rs)) (hlen : ∀ sig, parseMethodDescriptor y.desc = some sig → argsL.length = sig.parameters.length) (hst : st = argsL.reverse ++ .ref x :: st0) (has : (.ref x :: argsL).toArray = as') (hW : (st0.map fun v => v.category).sum ≤ W) (hsize : ls.size = c.maxLocals) (hc : cells + rc ≤ R.cells) (hs : slots + rs ≤ R.slots) (hF : ∀ v h' L, Q v h' L → Frw wl hS.size L ∧ CHr Z EL vm0 h vm0 h') (hd : decode code pc = .ok (.invokevirtual index, 3)) (hp : pc + 3 = pc1)
    (K : ∀ (v : Option Value) (T' : State) (h' : Heap) (L : List Loc), Q v h' L → Pos p l e R s m args below meth c code Z EL wl hS own vm0 T' (locs ++ L) (cells + rc) (slots + rs) h' → Go p.tables e below G (T'.setTop (mkF m pc1 ls (v.toList ++ st0)))) : Go p.tables e below G (T.setTop (mkF m pc ls st)) := by
  subst hp
  obtain ⟨cq, kq, qa, qb, qc⟩ := isOf P.hz P.heap E
  obtain ⟨v, vm₁, ⟨U, Lx, cx, sx⟩, -, X', ⟨L, hQ, l1, l2, l3⟩, stp⟩ := Stand.virtualBackUp P.1 P.q.2.1 (x := y) (y := z) P.2.2.2.2.1 (mvT P.hz w1) (mvT P.hz w2) (mvT P.hz w5) hy (mvT P.hz w3) (mvT P.hz w4) hK qa qc (g := mkF m pc ls st) rfl hsize (Steps.refl _) (argsL := argsL) (rest := st0) hlen hst (by show 2 * 0 + _ ≤ _; omega) (hb P.q.2.2 hd) (fun _ _ => ⟨has, P.heap, hc, hs⟩)
  dsimp only [Pt.U, Pt.locs, Pt.cells, Pt.slots] at *
  subst l1 l2 l3
  exact Go.tr stp (K v U _ L hQ (P.came X' (hF _ _ _ hQ).1 (hF _ _ _ hQ).2))
theorem Pos.callI (P : Pos p l e R s m args below meth c code Z EL wl hS own vm0 T locs cells slots h) {index count : Nat} {xi y : MethodName} {x : Addr} {C : String} {as' : Array Value} {rc rs W : Nat} {Q : Option Value → Heap → List Loc → Prop} {argsL st0 : List Value} (E : Exa Z h x C) (w1 : (Cond.methodLink own index xi).before a0 Z = true) (w2 : (Cond.declares xi).before a0 Z = true) (w3 : (Cond.interfaceMethod xi.cls xi.cls xi.name xi.desc).before a0 Z = true) (h3 : ((Cond.interfaceMethod xi.cls xi.cls xi.name xi.desc).onTables && (Cond.interfaceMethod xi.cls xi.cls xi.name xi.desc).keepsFace) = true) (w4 : (Cond.selects C xi y).before a0 Z = true) (w5 : (Cond.instanceMethod y).before a0 Z = true) (w6 : (Cond.publicMethod y).before a0 Z = true) (w7 : (Cond.unhidden C xi.name xi.desc).before a0 Z = true) (w8 : (Cond.castable C xi.cls).before a0 Z = true) (hy : xi.cls ≠ "java/lang/invoke/MethodHandle" ∧ xi.cls ≠ "java/lang/invoke/VarHandle") (hK : Back l R p e below (s.setVm vm0) args y 5 W (fun A a => a = as' ∧ A.U.heap = h ∧ A.cells + rc ≤ R.cells ∧ A.slots + rs ≤ R.slots) (fun A _ v B => ∃ L, Q v B.U.heap L ∧ B.locs = A.locs ++ L ∧ B.cells = A.cells + rc ∧ B.slots = A.slots + rs)) (hlen : ∀ sig, parseMethodDescriptor xi.desc = some sig → argsL.length = sig.parameters.length) (hst : st = argsL.reverse ++ .ref x :: st0) (has : (.ref x :: argsL).toArray = as') (hW : (st0.map fun v => v.category).sum ≤ W) (hsize : ls.size = c.maxLocals) (hc : cells + rc ≤ R.cells) (hs : slots + rs ≤ R.slots) (hF : ∀ v h' L, Q v h' L → Frw wl hS.size L ∧ CHr Z EL vm0 h vm0 h') (hd : decode code pc = .ok (.invokeinterface index count, 5)) (hp : pc + 5 = pc1)
    (K : ∀ (v : Option Value) (T' : State) (h' : Heap) (L : List Loc), Q v h' L → Pos p l e R s m args below meth c code Z EL wl hS own vm0 T' (locs ++ L) (cells + rc) (slots + rs) h' → Go p.tables e below G (T'.setTop (mkF m pc1 ls (v.toList ++ st0)))) : Go p.tables e below G (T.setTop (mkF m pc ls st)) := by
  subst hp
  obtain ⟨cq, kq, qa, qb, qc⟩ := isOf P.hz P.heap E
  obtain ⟨v, vm₁, ⟨U, Lx, cx, sx⟩, -, X', ⟨L, hQ, l1, l2, l3⟩, stp⟩ := Stand.interfaceBack P.1 P.q.2.1 P.2.2.2.2.1 (mvT P.hz w1) (mvT P.hz w2) (mvT P.hz w3 h3) (mvT P.hz w4) (mvT P.hz w5) (mvT P.hz w6) (mvT P.hz w7) (mvT P.hz w8) hy hK qa qb qc (g := mkF m pc ls st) rfl hsize (Steps.refl _) (argsL := argsL) (rest := st0) hlen hst (by show 2 * 0 + _ ≤ _; omega) (hb P.q.2.2 hd) (fun _ _ => ⟨has, P.heap, hc, hs⟩)
  dsimp only [Pt.U, Pt.locs, Pt.cells, Pt.slots] at *
  subst l1 l2 l3
  exact Go.tr stp (K v U _ L hQ (P.came X' (hF _ _ _ hQ).1 (hF _ _ _ hQ).2))
theorem Pos.callSW (P : Pos p l e R s m args below meth c code Z EL wl hS own vm0 T locs cells slots h) {index : Nat} {y : MethodName} {bytes : ByteArray} {maxL : Nat} {ret : Option FieldType} {as' : Array Value} {rc rs W : Nat} {Q : Option Value → Heap → List Loc → Prop} {argsL st0 : List Value} (w1 : (Cond.methodLink own index y).before a0 Z = true) (w2 : (Cond.static y).before a0 Z = true) (w3 : (Cond.initialized y.cls).before a0 Z = true) (w4 : (Cond.code y bytes maxL ret).before a0 Z = true) (hy : y.cls ≠ "java/lang/invoke/MethodHandle" ∧ y.cls ≠ "java/lang/invoke/VarHandle") (hK : BackS l R p e below (s.setVm vm0) args y 3 W (fun A a => a = as' ∧ A.U.heap = h ∧ A.cells + rc ≤ R.cells ∧ A.slots + rs ≤ R.slots) (fun A _ v B => ∃ L, Q v B.U.heap L ∧ B.locs = A.locs ++ L ∧ B.cells = A.cells + rc ∧ B.slots = A.slots + rs ∧ CHr Z EL vm0 h B.U.vm B.U.heap)) (hlen : ∀ sig, parseMethodDescriptor y.desc = some sig → argsL.length = sig.parameters.length) (hst : st = argsL.reverse ++ st0) (has : argsL.toArray = as') (hW : (st0.map fun v => v.category).sum ≤ W) (hsize : ls.size = c.maxLocals) (hc : cells + rc ≤ R.cells) (hs : slots + rs ≤ R.slots) (hF : ∀ v h' L, Q v h' L → Frw wl hS.size L) (hd : decode code pc = .ok (.invokestatic index, 3)) (hp : pc + 3 = pc1)
    (K : ∀ (v : Option Value) (T' : State) (h' : Heap) (L : List Loc), Q v h' L → Pos p l e R s m args below meth c code Z EL wl hS own T'.vm T' (locs ++ L) (cells + rc) (slots + rs) h' → CHr Z EL vm0 h T'.vm h' → Go p.tables e below G (T'.setTop (mkF m pc1 ls (v.toList ++ st0)))) : Go p.tables e below G (T.setTop (mkF m pc ls st)) := by
  subst hp
  obtain ⟨v, vm₁, ⟨U, Lx, cx, sx⟩, -, X', hS', hgr, ⟨L, hQ, l1, l2, l3, hC⟩, stp⟩ := RoadKit.callSS P.1 P.q.2.1 P.2.2.2.2.1 (mvT P.hz w1) (mvT P.hz w2) (mvT P.hz w3) (mvT P.hz w4) hy hK (g := mkF m pc ls st) rfl hsize (argsL := argsL) (rest := st0) hlen hst (by show 2 * 0 + _ ≤ _; omega) (hb P.q.2.2 hd) (fun _ _ => ⟨has, P.heap, hc, hs⟩)
  dsimp only [Pt.U, Pt.locs, Pt.cells, Pt.slots] at *
  subst l1 l2 l3
  rw [P.heap] at hgr
  exact Go.tr stp (K v U _ L hQ (P.cameW X' hS' hgr (hF _ _ _ hQ) hC) hC)
theorem Pos.callNW (P : Pos p l e R s m args below meth c code Z EL wl hS own vm0 T locs cells slots h) {index : Nat} {y : MethodName} {bytes : ByteArray} {maxL : Nat} {x : Addr} {as' : Array Value} {rc rs W : Nat} {Q : Option Value → Heap → List Loc → Prop} {argsL st0 : List Value} (hy1 : y.name = "<init>") (w1 : (Cond.methodLink own index y).before a0 Z = true) (w2 : (Cond.instanceMethod y).before a0 Z = true) (w4 : (Cond.code y bytes maxL none).before a0 Z = true) (hy : y.cls ≠ "java/lang/invoke/MethodHandle" ∧ y.cls ≠ "java/lang/invoke/VarHandle") (hK : BackS l R p e below (s.setVm vm0) args y 3 W (fun A a => a = as' ∧ A.U.heap = h ∧ A.cells + rc ≤ R.cells ∧ A.slots + rs ≤ R.slots) (fun A _ v B => ∃ L, Q v B.U.heap L ∧ B.locs = A.locs ++ L ∧ B.cells = A.cells + rc ∧ B.slots = A.slots + rs ∧ CHr Z EL vm0 h B.U.vm B.U.heap)) (hlen : ∀ sig, parseMethodDescriptor y.desc = some sig → argsL.length = sig.parameters.length) (hst : st = argsL.reverse ++ .ref x :: st0) (has : (.ref x :: argsL).toArray = as') (hW : (st0.map fun v => v.category).sum ≤ W) (hsize : ls.size = c.maxLocals) (hc : cells + rc ≤ R.cells) (hs : slots + rs ≤ R.slots) (hF : ∀ v h' L, Q v h' L → Frw wl hS.size L) (hd : decode code pc = .ok (.invokespecial index, 3)) (hp : pc + 3 = pc1)
    (K : ∀ (v : Option Value) (T' : State) (h' : Heap) (L : List Loc), Q v h' L → Pos p l e R s m args below meth c code Z EL wl hS own T'.vm T' (locs ++ L) (cells + rc) (slots + rs) h' → CHr Z EL vm0 h T'.vm h' → Go p.tables e below G (T'.setTop (mkF m pc1 ls (v.toList ++ st0)))) : Go p.tables e below G (T.setTop (mkF m pc ls st)) := by
  subst hp
  obtain ⟨v, vm₁, ⟨U, Lx, cx, sx⟩, -, X', hS', hgr, ⟨L, hQ, l1, l2, l3, hC⟩, stp⟩ := Stand.specialBackS P.1 P.q.2.1 hy1 P.2.2.2.2.1 (mvT P.hz w1) (mvT P.hz w2) (mvT P.hz w4) hy hK (g := mkF m pc ls st) rfl hsize (Steps.refl _) (a := x) (argsL := argsL) (rest := st0) hlen hst (by show 2 * 0 + _ ≤ _; omega) (hb P.q.2.2 hd) (fun _ _ => ⟨has, P.heap, hc, hs⟩)
  dsimp only [Pt.U, Pt.locs, Pt.cells, Pt.slots] at *
  subst l1 l2 l3
  rw [P.heap] at hgr
  exact Go.tr stp (K v U _ L hQ (P.cameW X' hS' hgr (hF _ _ _ hQ) hC) hC)
theorem Pos.callVW (P : Pos p l e R s m args below meth c code Z EL wl hS own vm0 T locs cells slots h) {index : Nat} {y z : MethodName} {x : Addr} {C : String} {as' : Array Value} {rc rs W : Nat} {Q : Option Value → Heap → List Loc → Prop} {argsL st0 : List Value} (E : Exa Z h x C) (w1 : (Cond.methodLink own index y).before a0 Z = true) (w2 : (Cond.declares y).before a0 Z = true) (w3 : (Cond.selects C y z).before a0 Z = true) (w4 : (Cond.instanceMethod z).before a0 Z = true) (nf : NotFace (s.setVm vm0) y) (hy : y.cls ≠ "java/lang/invoke/MethodHandle" ∧ y.cls ≠ "java/lang/invoke/VarHandle") (hK : BackS l R p e below (s.setVm vm0) args z 3 W (fun A a => a = as' ∧ A.U.heap = h ∧ A.cells + rc ≤ R.cells ∧ A.slots + rs ≤ R.slots) (fun A _ v B => ∃ L, Q v B.U.heap L ∧ B.locs = A.locs ++ L ∧ B.cells = A.cells + rc ∧ B.slots = A.slots + rs ∧ CHr Z EL vm0 h B.U.vm B.U.heap)) (hlen : ∀ sig, parseMethodDescriptor y.desc = some sig → argsL.length = sig.parameters.length) (hst : st = argsL.reverse ++ .ref x :: st0) (has : (.ref x :: argsL).toArray = as') (hW : (st0.map fun v => v.category).sum ≤ W) (hsize : ls.size = c.maxLocals) (hc : cells + rc ≤ R.cells) (hs : slots + rs ≤ R.slots) (hF : ∀ v h' L, Q v h' L → Frw wl hS.size L) (hd : decode code pc = .ok (.invokevirtual index, 3)) (hp : pc + 3 = pc1)
    (K : ∀ (v : Option Value) (T' : State) (h' : Heap) (L : List Loc), Q v h' L → Pos p l e R s m args below meth c code Z EL wl hS own T'.vm T' (locs ++ L) (cells + rc) (slots + rs) h' → CHr Z EL vm0 h T'.vm h' → Go p.tables e below G (T'.setTop (mkF m pc1 ls (v.toList ++ st0)))) : Go p.tables e below G (T.setTop (mkF m pc ls st)) := by
  subst hp
  obtain ⟨cq, kq, qa, qb, qc⟩ := isOf P.hz P.heap E
  obtain ⟨v, vm₁, ⟨U, Lx, cx, sx⟩, -, X', hS', hgr, ⟨L, hQ, l1, l2, l3, hC⟩, stp⟩ := Stand.virtualBackS P.1 P.q.2.1 (y := y) (z := z) P.2.2.2.2.1 (mvT P.hz w1) (mvT P.hz w2) nf (mvT P.hz w3) (mvT P.hz w4) hy hK qa qc (g := mkF m pc ls st) rfl hsize (Steps.refl _) (argsL := argsL) (rest := st0) hlen hst (by show 2 * 0 + _ ≤ _; omega) (hb P.q.2.2 hd) (fun _ _ => ⟨has, P.heap, hc, hs⟩)
  dsimp only [Pt.U, Pt.locs, Pt.cells, Pt.slots] at *
  subst l1 l2 l3
  rw [P.heap] at hgr
  exact Go.tr stp (K v U _ L hQ (P.cameW X' hS' hgr (hF _ _ _ hQ) hC) hC)
theorem Pos.callVUW (P : Pos p l e R s m args below meth c code Z EL wl hS own vm0 T locs cells slots h) {index : Nat} {y z : MethodName} {x : Addr} {C owner : String} {as' : Array Value} {rc rs W : Nat} {Q : Option Value → Heap → List Loc → Prop} {argsL st0 : List Value} (E : Exa Z h x C) (w1 : (Cond.methodLink own index y).before a0 Z = true) (w2 : (Cond.sameMethod y.cls owner y.name y.desc).before a0 Z = true) (w5 : (Cond.declares ⟨owner, y.name, y.desc⟩).before a0 Z = true) (hy : owner ≠ "java/lang/invoke/MethodHandle" ∧ owner ≠ "java/lang/invoke/VarHandle") (w3 : (Cond.selects C y z).before a0 Z = true) (w4 : (Cond.instanceMethod z).before a0 Z = true) (hK : BackS l R p e below (s.setVm vm0) args z 3 W (fun A a => a = as' ∧ A.U.heap = h ∧ A.cells + rc ≤ R.cells ∧ A.slots + rs ≤ R.slots) (fun A _ v B => ∃ L, Q v B.U.heap L ∧ B.locs = A.locs ++ L ∧ B.cells = A.cells + rc ∧ B.slots = A.slots + rs ∧ CHr Z EL vm0 h B.U.vm B.U.heap)) (hlen : ∀ sig, parseMethodDescriptor y.desc = some sig → argsL.length = sig.parameters.length) (hst : st = argsL.reverse ++ .ref x :: st0) (has : (.ref x :: argsL).toArray = as') (hW : (st0.map fun v => v.category).sum ≤ W) (hsize : ls.size = c.maxLocals) (hc : cells + rc ≤ R.cells) (hs : slots + rs ≤ R.slots) (hF : ∀ v h' L, Q v h' L → Frw wl hS.size L) (hd : decode code pc = .ok (.invokevirtual index, 3)) (hp : pc + 3 = pc1)
    (K : ∀ (v : Option Value) (T' : State) (h' : Heap) (L : List Loc), Q v h' L → Pos p l e R s m args below meth c code Z EL wl hS own T'.vm T' (locs ++ L) (cells + rc) (slots + rs) h' → CHr Z EL vm0 h T'.vm h' → Go p.tables e below G (T'.setTop (mkF m pc1 ls (v.toList ++ st0)))) : Go p.tables e below G (T.setTop (mkF m pc ls st)) := by
  subst hp
  obtain ⟨cq, kq, qa, qb, qc⟩ := isOf P.hz P.heap E
  obtain ⟨v, vm₁, ⟨U, Lx, cx, sx⟩, -, X', hS', hgr, ⟨L, hQ, l1, l2, l3, hC⟩, stp⟩ := Stand.virtualBackUpS P.1 P.q.2.1 (x := y) (y := z) P.2.2.2.2.1 (mvT P.hz w1) (mvT P.hz w2) (mvT P.hz w5) hy (mvT P.hz w3) (mvT P.hz w4) hK qa qc (g := mkF m pc ls st) rfl hsize (Steps.refl _) (argsL := argsL) (rest := st0) hlen hst (by show 2 * 0 + _ ≤ _; omega) (hb P.q.2.2 hd) (fun _ _ => ⟨has, P.heap, hc, hs⟩)
  dsimp only [Pt.U, Pt.locs, Pt.cells, Pt.slots] at *
  subst l1 l2 l3
  rw [P.heap] at hgr
  exact Go.tr stp (K v U _ L hQ (P.cameW X' hS' hgr (hF _ _ _ hQ) hC) hC)
theorem Pos.callIW (P : Pos p l e R s m args below meth c code Z EL wl hS own vm0 T locs cells slots h) {index count : Nat} {xi y : MethodName} {x : Addr} {C : String} {as' : Array Value} {rc rs W : Nat} {Q : Option Value → Heap → List Loc → Prop} {argsL st0 : List Value} (E : Exa Z h x C) (w1 : (Cond.methodLink own index xi).before a0 Z = true) (w2 : (Cond.declares xi).before a0 Z = true) (w3 : (Cond.interfaceMethod xi.cls xi.cls xi.name xi.desc).before a0 Z = true) (h3 : ((Cond.interfaceMethod xi.cls xi.cls xi.name xi.desc).onTables && (Cond.interfaceMethod xi.cls xi.cls xi.name xi.desc).keepsFace) = true) (w4 : (Cond.selects C xi y).before a0 Z = true) (w5 : (Cond.instanceMethod y).before a0 Z = true) (w6 : (Cond.publicMethod y).before a0 Z = true) (w7 : (Cond.unhidden C xi.name xi.desc).before a0 Z = true) (w8 : (Cond.castable C xi.cls).before a0 Z = true) (hy : xi.cls ≠ "java/lang/invoke/MethodHandle" ∧ xi.cls ≠ "java/lang/invoke/VarHandle") (hK : BackS l R p e below (s.setVm vm0) args y 5 W (fun A a => a = as' ∧ A.U.heap = h ∧ A.cells + rc ≤ R.cells ∧ A.slots + rs ≤ R.slots) (fun A _ v B => ∃ L, Q v B.U.heap L ∧ B.locs = A.locs ++ L ∧ B.cells = A.cells + rc ∧ B.slots = A.slots + rs ∧ CHr Z EL vm0 h B.U.vm B.U.heap)) (hlen : ∀ sig, parseMethodDescriptor xi.desc = some sig → argsL.length = sig.parameters.length) (hst : st = argsL.reverse ++ .ref x :: st0) (has : (.ref x :: argsL).toArray = as') (hW : (st0.map fun v => v.category).sum ≤ W) (hsize : ls.size = c.maxLocals) (hc : cells + rc ≤ R.cells) (hs : slots + rs ≤ R.slots) (hF : ∀ v h' L, Q v h' L → Frw wl hS.size L) (hd : decode code pc = .ok (.invokeinterface index count, 5)) (hp : pc + 5 = pc1)
    (K : ∀ (v : Option Value) (T' : State) (h' : Heap) (L : List Loc), Q v h' L → Pos p l e R s m args below meth c code Z EL wl hS own T'.vm T' (locs ++ L) (cells + rc) (slots + rs) h' → CHr Z EL vm0 h T'.vm h' → Go p.tables e below G (T'.setTop (mkF m pc1 ls (v.toList ++ st0)))) : Go p.tables e below G (T.setTop (mkF m pc ls st)) := by
  subst hp
  obtain ⟨cq, kq, qa, qb, qc⟩ := isOf P.hz P.heap E
  obtain ⟨v, vm₁, ⟨U, Lx, cx, sx⟩, -, X', hS', hgr, ⟨L, hQ, l1, l2, l3, hC⟩, stp⟩ := Stand.interfaceBackS P.1 P.q.2.1 P.2.2.2.2.1 (mvT P.hz w1) (mvT P.hz w2) (mvT P.hz w3 h3) (mvT P.hz w4) (mvT P.hz w5) (mvT P.hz w6) (mvT P.hz w7) (mvT P.hz w8) hy hK qa qb qc (g := mkF m pc ls st) rfl hsize (Steps.refl _) (argsL := argsL) (rest := st0) hlen hst (by show 2 * 0 + _ ≤ _; omega) (hb P.q.2.2 hd) (fun _ _ => ⟨has, P.heap, hc, hs⟩)
  dsimp only [Pt.U, Pt.locs, Pt.cells, Pt.slots] at *
  subst l1 l2 l3
  rw [P.heap] at hgr
  exact Go.tr stp (K v U _ L hQ (P.cameW X' hS' hgr (hF _ _ _ hQ) hC) hC)
/-- what a body leaves, narrow: nothing interned -/
def GN (s : State) (Q : Option Value → Heap → List Loc → Prop) (rm : Room) (o : Outcome) (U : State) : Prop := ∃ v L, o = .returned v ∧ Q v U.heap L ∧ FrameEnd s o U L rm.cells rm.slots
/-- wide -/
def GW (s : State) (Z : State) (EL : List (String × Nat)) (h0 : Heap) (Q : Option Value → Heap → List Loc → Prop) (rm : Room) (o : Outcome) (U : State) : Prop := ∃ v L, o = .returned v ∧ Q v U.heap L ∧ CHr Z EL s.vm h0 U.vm U.heap ∧ ReturnedEndW s o U L rm.cells rm.slots
theorem Pos.endN {Q : Option Value → Heap → List Loc → Prop} {v : Option Value} (P : Pos p l e R s m args below meth c code Z EL wl hS own s.vm T locs cells slots h) (hlk : meth.locks = false) (hv : meth.sig.returnType = none → v = none) (hc : cells ≤ R.cells) (hs : slots ≤ R.slots) (hQ : Q v h locs) {g : JFrame}
    (stp : ∀ fs, (∀ (f : JFrame) (acts : List Action), f.method = m → f.locked = none → f.entered = [] → (doReturn e (T.setTop f) acts v).1 = T.setFrames fs) → Steps p.tables e below (T.setTop g) (T.setFrames fs)) : Go p.tables e below (GN s Q R) (T.setTop g) := by
  obtain ⟨fs, hr, hrun, hended, hW, hsame⟩ := P.1.leave (v := v) hv hlk
  refine ⟨_, _, stp fs hr, hrun, hended, v, locs, rfl, ?_, ⟨_, rfl⟩, hW, hsame.mono hc hs⟩
  have : (T.setFrames fs).heap = h := P.heap
  rw [this]; exact hQ
theorem Pos.endW {Q : Option Value → Heap → List Loc → Prop} {v : Option Value} (P : Pos p l e R s m args below meth c code Z EL wl hS own vm0 T locs cells slots h) (hEL : EW Z a0 EL) (hlk : meth.locks = false) (hv : meth.sig.returnType = none → v = none) (hc : cells ≤ R.cells) (hs : slots ≤ R.slots) (hQ : Q v h locs) {g : JFrame}
    (stp : ∀ fs, (∀ (f : JFrame) (acts : List Action), f.method = m → f.locked = none → f.entered = [] → (doReturn e (T.setTop f) acts v).1 = T.setFrames fs) → Steps p.tables e below (T.setTop g) (T.setFrames fs)) : Go p.tables e below (GW s Z EL hS Q R) (T.setTop g) := by
  obtain ⟨X, eT, ⟨k0, q1, q2⟩, hZ, hown, N, n1, C, hx, hby⟩ := P
  have X2 := X.mono hc hs
  obtain ⟨fs, hr, hrun, hended, hEnd⟩ := X2.leaveW q1 (by rw [eT]; exact q2) (v := v) hv hlk
  have hh : (T.setFrames fs).heap = h := eT
  refine ⟨_, _, stp fs hr, hrun, hended, v, locs, rfl, by rw [hh]; exact hQ, ?_, hEnd⟩
  rw [hh]; show CHr Z EL s.vm hS T.vm h; exact C.trans (CHv.at X hZ hEL C.1)
theorem Pos.retN {Q : Option Value → Heap → List Loc → Prop} (P : Pos p l e R s m args below meth c code Z EL wl hS own s.vm T locs cells slots h) (hlk : meth.locks = false) (hret : meth.sig.returnType = none) (hd : decode code pc = .ok (.return_, 1)) (hc : cells ≤ R.cells) (hs : slots ≤ R.slots) (hQ : Q none h locs) : Go p.tables e below (GN s Q R) (T.setTop (mkF m pc ls [])) :=
  P.endN hlk (fun _ => rfl) hc hs hQ fun fs hr => P.1.returnOut P.q.2.1 hret (hb P.q.2.2 hd) hr
theorem Pos.retIN {Q : Option Value → Heap → List Loc → Prop} (P : Pos p l e R s m args below meth c code Z EL wl hS own s.vm T locs cells slots h) (hlk : meth.locks = false) (hret : meth.sig.returnType = some .int) {z : Int32} (hd : decode code pc = .ok (.ireturn, 1)) (hc : cells ≤ R.cells) (hs : slots ≤ R.slots) (hQ : Q (some (.int z)) h locs) : Go p.tables e below (GN s Q R) (T.setTop (mkF m pc ls (.int z :: st))) :=
  P.endN hlk (fun q => by rw [hret] at q; cases q) hc hs hQ fun fs hr => retOut P.1 P.q.2.1 hret rfl (Or.inl ⟨rfl, Or.inl rfl, z, rfl⟩) (hb P.q.2.2 hd) hr
theorem Pos.retVN {Q : Option Value → Heap → List Loc → Prop} (P : Pos p l e R s m args below meth c code Z EL wl hS own s.vm T locs cells slots h) (hlk : meth.locks = false) {t : FieldType} (hret : meth.sig.returnType = some t) (ht : t = .boolean ∨ t = .byte ∨ t = .char ∨ t = .short) {z : Int32} (hd : decode code pc = .ok (.ireturn, 1)) (hc : cells ≤ R.cells) (hs : slots ≤ R.slots) (hQ : Q (some (.int (nar t z))) h locs) : Go p.tables e below (GN s Q R) (T.setTop (mkF m pc ls (.int z :: st))) :=
  P.endN hlk (fun q => by rw [hret] at q; cases q) hc hs hQ fun fs hr => RoadKit.retN P.1 P.q.2.1 hret ht (hb P.q.2.2 hd) hr
theorem Pos.retAN {Q : Option Value → Heap → List Loc → Prop} (P : Pos p l e R s m args below meth c code Z EL wl hS own s.vm T locs cells slots h) (hlk : meth.locks = false) {t : FieldType} (hret : meth.sig.returnType = some t) (ht : t.isReference = true) {v : Value} (hv : v.isRef = true) (hn : narrow t v = v) (hd : decode code pc = .ok (.areturn, 1)) (hc : cells ≤ R.cells) (hs : slots ≤ R.slots) (hQ : Q (some v) h locs) : Go p.tables e below (GN s Q R) (T.setTop (mkF m pc ls (v :: st))) :=
  P.endN hlk (fun q => by rw [hret] at q; cases q) hc hs hQ fun fs hr => retOut P.1 P.q.2.1 hret hn (Or.inr (Or.inr (Or.inr (Or.inr ⟨rfl, ht, hv⟩)))) (hb P.q.2.2 hd) hr
theorem Pos.retDN {Q : Option Value → Heap → List Loc → Prop} (P : Pos p l e R s m args below meth c code Z EL wl hS own s.vm T locs cells slots h) (hlk : meth.locks = false) (hret : meth.sig.returnType = some .double) {z : UInt64} (hd : decode code pc = .ok (.dreturn, 1)) (hc : cells ≤ R.cells) (hs : slots ≤ R.slots) (hQ : Q (some (.double z)) h locs) : Go p.tables e below (GN s Q R) (T.setTop (mkF m pc ls (.double z :: st))) :=
  P.endN hlk (fun q => by rw [hret] at q; cases q) hc hs hQ fun fs hr => retOut P.1 P.q.2.1 hret rfl (Or.inr (Or.inr (Or.inl ⟨rfl, rfl, z, rfl⟩))) (hb P.q.2.2 hd) hr
theorem Pos.retLN {Q : Option Value → Heap → List Loc → Prop} (P : Pos p l e R s m args below meth c code Z EL wl hS own s.vm T locs cells slots h) (hlk : meth.locks = false) (hret : meth.sig.returnType = some .long) {z : Int64} (hd : decode code pc = .ok (.lreturn, 1)) (hc : cells ≤ R.cells) (hs : slots ≤ R.slots) (hQ : Q (some (.long z)) h locs) : Go p.tables e below (GN s Q R) (T.setTop (mkF m pc ls (.long z :: st))) :=
  P.endN hlk (fun q => by rw [hret] at q; cases q) hc hs hQ fun fs hr => retOut P.1 P.q.2.1 hret rfl (Or.inr (Or.inl ⟨rfl, rfl, z, rfl⟩)) (hb P.q.2.2 hd) hr
theorem Pos.retFN {Q : Option Value → Heap → List Loc → Prop} (P : Pos p l e R s m args below meth c code Z EL wl hS own s.vm T locs cells slots h) (hlk : meth.locks = false) (hret : meth.sig.returnType = some .float) {z : UInt32} (hd : decode code pc = .ok (.freturn, 1)) (hc : cells ≤ R.cells) (hs : slots ≤ R.slots) (hQ : Q (some (.float z)) h locs) : Go p.tables e below (GN s Q R) (T.setTop (mkF m pc ls (.float z :: st))) :=
  P.endN hlk (fun q => by rw [hret] at q; cases q) hc hs hQ fun fs hr => retOut P.1 P.q.2.1 hret rfl (Or.inr (Or.inr (Or.inr (Or.inl ⟨rfl, rfl, z, rfl⟩)))) (hb P.q.2.2 hd) hr
theorem Pos.retW {Q : Option Value → Heap → List Loc → Prop} (P : Pos p l e R s m args below meth c code Z EL wl hS own vm0 T locs cells slots h) (hEL : EW Z a0 EL) (hlk : meth.locks = false) (hret : meth.sig.returnType = none) (hd : decode code pc = .ok (.return_, 1)) (hc : cells ≤ R.cells) (hs : slots ≤ R.slots) (hQ : Q none h locs) : Go p.tables e below (GW s Z EL hS Q R) (T.setTop (mkF m pc ls [])) :=
  P.endW hEL hlk (fun _ => rfl) hc hs hQ fun fs hr => P.1.returnOut P.q.2.1 hret (hb P.q.2.2 hd) hr
theorem Pos.retIW {Q : Option Value → Heap → List Loc → Prop} (P : Pos p l e R s m args below meth c code Z EL wl hS own vm0 T locs cells slots h) (hEL : EW Z a0 EL) (hlk : meth.locks = false) (hret : meth.sig.returnType = some .int) {z : Int32} (hd : decode code pc = .ok (.ireturn, 1)) (hc : cells ≤ R.cells) (hs : slots ≤ R.slots) (hQ : Q (some (.int z)) h locs) : Go p.tables e below (GW s Z EL hS Q R) (T.setTop (mkF m pc ls (.int z :: st))) :=
  P.endW hEL hlk (fun q => by rw [hret] at q; cases q) hc hs hQ fun fs hr => retOut P.1 P.q.2.1 hret rfl (Or.inl ⟨rfl, Or.inl rfl, z, rfl⟩) (hb P.q.2.2 hd) hr
theorem Pos.retVW {Q : Option Value → Heap → List Loc → Prop} (P : Pos p l e R s m args below meth c code Z EL wl hS own vm0 T locs cells slots h) (hEL : EW Z a0 EL) (hlk : meth.locks = false) {t : FieldType} (hret : meth.sig.returnType = some t) (ht : t = .boolean ∨ t = .byte ∨ t = .char ∨ t = .short) {z : Int32} (hd : decode code pc = .ok (.ireturn, 1)) (hc : cells ≤ R.cells) (hs : slots ≤ R.slots) (hQ : Q (some (.int (nar t z))) h locs) : Go p.tables e below (GW s Z EL hS Q R) (T.setTop (mkF m pc ls (.int z :: st))) :=
  P.endW hEL hlk (fun q => by rw [hret] at q; cases q) hc hs hQ fun fs hr => RoadKit.retN P.1 P.q.2.1 hret ht (hb P.q.2.2 hd) hr
theorem Pos.retAW {Q : Option Value → Heap → List Loc → Prop} (P : Pos p l e R s m args below meth c code Z EL wl hS own vm0 T locs cells slots h) (hEL : EW Z a0 EL) (hlk : meth.locks = false) {t : FieldType} (hret : meth.sig.returnType = some t) (ht : t.isReference = true) {v : Value} (hv : v.isRef = true) (hn : narrow t v = v) (hd : decode code pc = .ok (.areturn, 1)) (hc : cells ≤ R.cells) (hs : slots ≤ R.slots) (hQ : Q (some v) h locs) : Go p.tables e below (GW s Z EL hS Q R) (T.setTop (mkF m pc ls (v :: st))) :=
  P.endW hEL hlk (fun q => by rw [hret] at q; cases q) hc hs hQ fun fs hr => retOut P.1 P.q.2.1 hret hn (Or.inr (Or.inr (Or.inr (Or.inr ⟨rfl, ht, hv⟩)))) (hb P.q.2.2 hd) hr
theorem Pos.retDW {Q : Option Value → Heap → List Loc → Prop} (P : Pos p l e R s m args below meth c code Z EL wl hS own vm0 T locs cells slots h) (hEL : EW Z a0 EL) (hlk : meth.locks = false) (hret : meth.sig.returnType = some .double) {z : UInt64} (hd : decode code pc = .ok (.dreturn, 1)) (hc : cells ≤ R.cells) (hs : slots ≤ R.slots) (hQ : Q (some (.double z)) h locs) : Go p.tables e below (GW s Z EL hS Q R) (T.setTop (mkF m pc ls (.double z :: st))) :=
  P.endW hEL hlk (fun q => by rw [hret] at q; cases q) hc hs hQ fun fs hr => retOut P.1 P.q.2.1 hret rfl (Or.inr (Or.inr (Or.inl ⟨rfl, rfl, z, rfl⟩))) (hb P.q.2.2 hd) hr
theorem Pos.retLW {Q : Option Value → Heap → List Loc → Prop} (P : Pos p l e R s m args below meth c code Z EL wl hS own vm0 T locs cells slots h) (hEL : EW Z a0 EL) (hlk : meth.locks = false) (hret : meth.sig.returnType = some .long) {z : Int64} (hd : decode code pc = .ok (.lreturn, 1)) (hc : cells ≤ R.cells) (hs : slots ≤ R.slots) (hQ : Q (some (.long z)) h locs) : Go p.tables e below (GW s Z EL hS Q R) (T.setTop (mkF m pc ls (.long z :: st))) :=
  P.endW hEL hlk (fun q => by rw [hret] at q; cases q) hc hs hQ fun fs hr => retOut P.1 P.q.2.1 hret rfl (Or.inr (Or.inl ⟨rfl, rfl, z, rfl⟩)) (hb P.q.2.2 hd) hr
theorem Pos.retFW {Q : Option Value → Heap → List Loc → Prop} (P : Pos p l e R s m args below meth c code Z EL wl hS own vm0 T locs cells slots h) (hEL : EW Z a0 EL) (hlk : meth.locks = false) (hret : meth.sig.returnType = some .float) {z : UInt32} (hd : decode code pc = .ok (.freturn, 1)) (hc : cells ≤ R.cells) (hs : slots ≤ R.slots) (hQ : Q (some (.float z)) h locs) : Go p.tables e below (GW s Z EL hS Q R) (T.setTop (mkF m pc ls (.float z :: st))) :=
  P.endW hEL hlk (fun q => by rw [hret] at q; cases q) hc hs hQ fun fs hr => retOut P.1 P.q.2.1 hret rfl (Or.inr (Or.inr (Or.inr (Or.inl ⟨rfl, rfl, z, rfl⟩)))) (hb P.q.2.2 hd) hr
end Heapy
section Met
/-- what a stack trace asks of the tables and of the frames beneath -/
abbrev KK : Program → Env → List Frame → State → Array Value → Prop := fun _ _ bl s _ => s.vm.MethodsKnown ∧ s.vm.FramesKnown bl
variable {l : Launch} {Z : State} {EL : List (String × Nat)} {y : MethodName} {bytes : ByteArray} {maxL : Nat} {ret : Option FieldType} {ws : List Jvm.Cond} {rm : Room} {as' : Array Value} {h0 : Heap} {Q : Option Value → Heap → List Loc → Prop} {a0 : Array Value}
/-- a body's contract, narrow (nothing interned) -/
def MetN (l : Launch) (Z : State) (y : MethodName) (bytes : ByteArray) (maxL : Nat) (ret : Option FieldType) (ws : List Jvm.Cond) (rm : Room) (as' : Array Value) (h0 : Heap) (Q : Option Value → Heap → List Loc → Prop) : Prop :=
  MetFree l y (head1 (Jvm.Cond.code y bytes maxL ret :: ws) rm) (fun a U => a = as' ∧ Z.Warmed39 U.vm ∧ U.heap = h0) (fun _ _ _ _ _ => True) (fun _ U o U' => GN U Q rm o U')
/-- .. wide; the places of ss are no booked String's -/
def MetW (l : Launch) (Z : State) (EL : List (String × Nat)) (y : MethodName) (bytes : ByteArray) (maxL : Nat) (ret : Option FieldType) (ws : List Jvm.Cond) (rm : Room) (as' : Array Value) (ss : List Addr) (h0 : Heap) (Q : Option Value → Heap → List Loc → Prop) : Prop :=
  MetFree l y (head1 (Jvm.Cond.code y bytes maxL ret :: ws) rm) (fun a U => a = as' ∧ Z.Warmed39 U.vm ∧ U.heap = h0 ∧ CHv Z EL U.vm h0 ∧ ∀ x ∈ ss, Safe Z EL U.vm h0 x) (fun _ _ _ _ _ => True) (fun _ U o U' => GW U Z EL h0 Q rm o U')
theorem MetN.mk {ls0 : Array Slot} (wl : List Addr) (hp : plainFor y = true) (hent : ∀ m, entryFrame m as' maxL = mkF m 0 ls0 [])
    (body : ∀ p e s m below meth c s₁, c.maxLocals = maxL → meth.sig.returnType = ret → meth.name = y.name → meth.locks = false → Pos p l e rm s m as' below meth c bytes Z [] wl h0 y.cls s.vm s₁ [] 0 0 h0 → Go p.tables e below (GN s Q rm) (s₁.setTop (mkF m 0 ls0 []))) : MetN l Z y bytes maxL ret ws rm as' h0 Q := by
  refine MetFree.of_bodySF hp hisR ?_
  intro p e s m args below meth c s₁ Bd hml hP hK
  obtain ⟨rfl, hZ, hh⟩ := hP
  have hown : s.vm.findClass y.cls = some m.cls := findClass_of_methodNamed Bd.named
  have hnm := (name_of_methodNamed Bd.named Bd.method).1
  have e0 : s₁.heap = h0 := by rw [← hh, Bd.state]; rfl
  have X0 : Stand p l e rm s m args below meth c s₁ [] 0 0 := Stand.of_body Bd
  have hC : CHv Z [] s.vm h0 := fun _ q => nomatch q
  rw [hent]
  exact body p e s m below meth c s₁ hml Bd.returns hnm Bd.notSynchronized ⟨X0, e0, ⟨0, (State.WarmedH.refl s).since _, Nat.zero_le _⟩, hZ, hown, Frw.nil, hh, CHr.refl hC, Bd.exec, Bd.bytes⟩
theorem MetW.mk {ls0 : Array Slot} {ss : List Addr} (wl : List Addr) (hp : plainFor y = true) (hent : ∀ m, entryFrame m as' maxL = mkF m 0 ls0 [])
    (body : ∀ p e s m below meth c s₁, c.maxLocals = maxL → meth.sig.returnType = ret → meth.name = y.name → meth.locks = false → (∀ x ∈ ss, Safe Z EL s.vm h0 x) → Pos p l e rm s m as' below meth c bytes Z EL wl h0 y.cls s.vm s₁ [] 0 0 h0 → Go p.tables e below (GW s Z EL h0 Q rm) (s₁.setTop (mkF m 0 ls0 []))) : MetW l Z EL y bytes maxL ret ws rm as' ss h0 Q := by
  refine MetFree.of_bodySF hp hisR ?_
  intro p e s m args below meth c s₁ Bd hml hP hK
  obtain ⟨rfl, hZ, hh, hC, hss⟩ := hP
  have hown : s.vm.findClass y.cls = some m.cls := findClass_of_methodNamed Bd.named
  have hnm := (name_of_methodNamed Bd.named Bd.method).1
  have e0 : s₁.heap = h0 := by rw [← hh, Bd.state]; rfl
  have X0 : Stand p l e rm s m args below meth c s₁ [] 0 0 := Stand.of_body Bd
  rw [hent]
  exact body p e s m below meth c s₁ hml Bd.returns hnm Bd.notSynchronized hss ⟨X0, e0, ⟨0, (State.WarmedH.refl s).since _, Nat.zero_le _⟩, hZ, hown, Frw.nil, hh, CHr.refl hC, Bd.exec, Bd.bytes⟩
def MetNK (l : Launch) (Z : State) (y : MethodName) (bytes : ByteArray) (maxL : Nat) (ret : Option FieldType) (ws : List Jvm.Cond) (rm : Room) (as' : Array Value) (h0 : Heap) (Q : Option Value → Heap → List Loc → Prop) : Prop :=
  MetFree l y (head1 (Jvm.Cond.code y bytes maxL ret :: ws) rm) (fun a U => a = as' ∧ Z.Warmed39 U.vm ∧ U.heap = h0) KK (fun _ U o U' => GN U Q rm o U')
def MetWK (l : Launch) (Z : State) (EL : List (String × Nat)) (y : MethodName) (bytes : ByteArray) (maxL : Nat) (ret : Option FieldType) (ws : List Jvm.Cond) (rm : Room) (as' : Array Value) (ss : List Addr) (h0 : Heap) (Q : Option Value → Heap → List Loc → Prop) : Prop :=
  MetFree l y (head1 (Jvm.Cond.code y bytes maxL ret :: ws) rm) (fun a U => a = as' ∧ Z.Warmed39 U.vm ∧ U.heap = h0 ∧ CHv Z EL U.vm h0 ∧ ∀ x ∈ ss, Safe Z EL U.vm h0 x) KK (fun _ U o U' => GW U Z EL h0 Q rm o U')
theorem MetNK.mk {ls0 : Array Slot} (wl : List Addr) (hp : plainFor y = true) (hent : ∀ m, entryFrame m as' maxL = mkF m 0 ls0 [])
    (body : ∀ p e s m below meth c s₁, c.maxLocals = maxL → meth.sig.returnType = ret → meth.name = y.name → meth.locks = false → s.vm.MethodsKnown → s.vm.FramesKnown below → Pos p l e rm s m as' below meth c bytes Z [] wl h0 y.cls s.vm s₁ [] 0 0 h0 → Go p.tables e below (GN s Q rm) (s₁.setTop (mkF m 0 ls0 []))) : MetNK l Z y bytes maxL ret ws rm as' h0 Q := by
  refine MetFree.of_bodySF hp hisR ?_
  intro p e s m args below meth c s₁ Bd hml hP hK
  obtain ⟨rfl, hZ, hh⟩ := hP
  have hown : s.vm.findClass y.cls = some m.cls := findClass_of_methodNamed Bd.named
  have hnm := (name_of_methodNamed Bd.named Bd.method).1
  have e0 : s₁.heap = h0 := by rw [← hh, Bd.state]; rfl
  have X0 : Stand p l e rm s m args below meth c s₁ [] 0 0 := Stand.of_body Bd
  have hC : CHv Z [] s.vm h0 := fun _ q => nomatch q
  rw [hent]
  exact body p e s m below meth c s₁ hml Bd.returns hnm Bd.notSynchronized hK.1 hK.2 ⟨X0, e0, ⟨0, (State.WarmedH.refl s).since _, Nat.zero_le _⟩, hZ, hown, Frw.nil, hh, CHr.refl hC, Bd.exec, Bd.bytes⟩
theorem MetWK.mk {ls0 : Array Slot} {ss : List Addr} (wl : List Addr) (hp : plainFor y = true) (hent : ∀ m, entryFrame m as' maxL = mkF m 0 ls0 [])
    (body : ∀ p e s m below meth c s₁, c.maxLocals = maxL → meth.sig.returnType = ret → meth.name = y.name → meth.locks = false → s.vm.MethodsKnown → s.vm.FramesKnown below → (∀ x ∈ ss, Safe Z EL s.vm h0 x) → Pos p l e rm s m as' below meth c bytes Z EL wl h0 y.cls s.vm s₁ [] 0 0 h0 → Go p.tables e below (GW s Z EL h0 Q rm) (s₁.setTop (mkF m 0 ls0 []))) : MetWK l Z EL y bytes maxL ret ws rm as' ss h0 Q := by
  refine MetFree.of_bodySF hp hisR ?_
  intro p e s m args below meth c s₁ Bd hml hP hK
  obtain ⟨rfl, hZ, hh, hC, hss⟩ := hP
  have hown : s.vm.findClass y.cls = some m.cls := findClass_of_methodNamed Bd.named
  have hnm := (name_of_methodNamed Bd.named Bd.method).1
  have e0 : s₁.heap = h0 := by rw [← hh, Bd.state]; rfl
  have X0 : Stand p l e rm s m args below meth c s₁ [] 0 0 := Stand.of_body Bd
  rw [hent]
  exact body p e s m below meth c s₁ hml Bd.returns hnm Bd.notSynchronized hK.1 hK.2 hss ⟨X0, e0, ⟨0, (State.WarmedH.refl s).since _, Nat.zero_le _⟩, hZ, hown, Frw.nil, hh, CHr.refl hC, Bd.exec, Bd.bytes⟩
variable {p : Program} {e : Env} {R : Room} {s : State} {args : Array Value} {below : List Frame} {vm0 : Vm} {len W : Nat} {m : MethodId} {meth : Method} {c : Code} {code : ByteArray} {wl : List Addr} {hS h : Heap} {own : String} {T : State} {locs : List Loc} {cells slots : Nat}
/-- a narrow contract pays a call -/
theorem MetN.pay (hM : MetN l Z y bytes maxL ret [] rm as' h Q) (P : Pos p l e R s m args below meth c code Z EL wl hS own vm0 T locs cells slots h) (wc : (Jvm.Cond.code y bytes maxL ret).before a0 Z = true) (wz : (Jvm.Cond.initialized y.cls).before a0 Z = true) (hf : rm.frames + 1 ≤ R.frames) (hl : W + (maxL + 11) + rm.locals ≤ R.locals) :
    Back l R p e below (s.setVm vm0) args y len W (fun A a => a = as' ∧ A.U.heap = h ∧ A.cells + rm.cells ≤ R.cells ∧ A.slots + rm.slots ≤ R.slots) (fun A _ v B => ∃ L, Q v B.U.heap L ∧ B.locs = A.locs ++ L ∧ B.cells = A.cells + rm.cells ∧ B.slots = A.slots + rm.slots) :=
  backOf hM P.hz wc wz hf hl
theorem MetNK.pay (hM : MetNK l Z y bytes maxL ret [] rm as' h Q) (P : Pos p l e R s m args below meth c code Z EL wl hS own vm0 T locs cells slots h) (hTK : s.vm.MethodsKnown) (hB : s.vm.FramesKnown below) (wc : (Jvm.Cond.code y bytes maxL ret).before a0 Z = true) (wz : (Jvm.Cond.initialized y.cls).before a0 Z = true) (hf : rm.frames + 1 ≤ R.frames) (hl : W + (maxL + 11) + rm.locals ≤ R.locals) :
    Back l R p e below (s.setVm vm0) args y len W (fun A a => a = as' ∧ A.U.heap = h ∧ A.cells + rm.cells ≤ R.cells ∧ A.slots + rm.slots ≤ R.slots) (fun A _ v B => ∃ L, Q v B.U.heap L ∧ B.locs = A.locs ++ L ∧ B.cells = A.cells + rm.cells ∧ B.slots = A.slots + rm.slots) :=
  backOfKL hM P.hz wc wz hf hl (Vm.MethodsKnown.alikeC P.alS hTK) (Vm.FramesKnown.alikeC P.alS hB)
/-- a wide one -/
theorem MetW.pay {ss : List Addr} (hM : MetW l Z EL y bytes maxL ret [] rm as' ss h Q) (P : Pos p l e R s m args below meth c code Z EL wl hS own vm0 T locs cells slots h) (hEL : EW Z a0 EL) (hss : ∀ x ∈ ss, x < h.size ∧ Safe Z EL vm0 h x) (wc : (Jvm.Cond.code y bytes maxL ret).before a0 Z = true) (wz : (Jvm.Cond.initialized y.cls).before a0 Z = true) (hf : rm.frames + 1 ≤ R.frames) (hl : W + (maxL + 11) + rm.locals ≤ R.locals) :
    BackS l R p e below (s.setVm vm0) args y len W (fun A a => a = as' ∧ A.U.heap = h ∧ A.cells + rm.cells ≤ R.cells ∧ A.slots + rm.slots ≤ R.slots) (fun A _ v B => ∃ L, Q v B.U.heap L ∧ B.locs = A.locs ++ L ∧ B.cells = A.cells + rm.cells ∧ B.slots = A.slots + rm.slots ∧ CHr Z EL vm0 h B.U.vm B.U.heap) :=
  BackS.of_freeW (bytes := bytes) (maxL := maxL) (ret := ret) (E := fun _ first o t L k n => k = rm.cells ∧ n = rm.slots ∧ (∃ v, o = .returned v ∧ Q v t.heap L) ∧ CHr Z EL first.vm h t.vm t.heap) hM hf hl
    (fun m meth c A a Y hp => have hU : Z.Warmed39 A.U.vm := wtrans (s := s.setVm vm0) P.hz Y.warmed
      ⟨by show (Jvm.Cond.and _ .tt).before a A.U = true; rw [Jvm.Cond.before_and, mv hU wc]; rfl, mv hU wc, mv hU wz, hp.2.2.1, hp.2.2.2⟩)
    (fun m meth c A a g mk Y hp => ⟨hp.1, wtrans (s := s.setVm vm0) P.hz Y.warmed, hp.2.1, (CHv.at Y P.hz hEL P.chv).1, fun x hx => (CHv.at Y P.hz hEL P.chv).safe (hss x hx).1 (hss x hx).2⟩) (fun _ _ _ _ _ _ _ _ _ => trivial)
    (fun _ _ _ _ ⟨v, L, h1, h2, h3, h4⟩ => ⟨L, _, _, h4, rfl, rfl, ⟨v, h1, h2⟩, h3⟩)
    (fun m meth c A a g mk v t L k n Y hp _ _ ⟨e1, e2, ⟨v', e3, e4⟩, e5⟩ => by
      cases e3; subst e1 e2
      exact ⟨L, e4, rfl, rfl, rfl, (CHv.at Y P.hz hEL P.chv).trans e5⟩)
end Met
/-- what a body that touches nothing says -/
def Pure (v : Option Value) (h0 : Heap) (u : Option Value) (h : Heap) (L : List Loc) : Prop := u = v ∧ L = [] ∧ h0 = h
theorem Pure.ok {v : Option Value} {h0 : Heap} {Z : State} {EL : List (String × Nat)} {vm0 : Vm} {wl : List Addr} {n : Nat} (H : CHv Z EL vm0 h0) : ∀ u h L, Pure v h0 u h L → Frw wl n L ∧ CHr Z EL vm0 h0 vm0 h := fun u h L q => by
  obtain ⟨-, rfl, rfl⟩ := q; exact ⟨Frw.nil, CHr.refl H⟩
theorem ns_root {Z : State} {a0 : Array Value} {O K : String} {n : Nat} (w : (Jvm.Cond.noSuperclass O).before a0 Z = true) (wk : (Jvm.Cond.instantiable K n).before a0 Z = true) (hn : O ≠ K) : NS Z O K := by
  obtain ⟨c, k, h1, h2, h3, -, -⟩ := Cond.noSuperclass_spec w
  obtain ⟨t, kt, g1, -⟩ := Cond.instantiable_spec wk
  have ne := ids_ne h1 g1 hn
  refine ⟨c, t, h1, g1, fun fuel => ?_⟩
  cases fuel with
  | zero => rfl
  | succ f => simp [Vm.isSubclassAux, ne, h2, h3]
theorem ns_no {Z : State} {a0 : Array Value} {C S K : String} {n : Nat} (w : (Jvm.Cond.superclass C S).before a0 Z = true) (wk : (Jvm.Cond.instantiable K n).before a0 Z = true) (N : NS Z C K) (hn : C ≠ K) : ∃ c t, Z.vm.findClass C = some c ∧ Z.vm.findClass K = some t ∧ Z.vm.assignable c t = false := by
  obtain ⟨c, t, h0, g0, n3⟩ := N
  obtain ⟨p, k, kp, h1, h2, h3, h4, h5, -, h7⟩ := Cond.superclass_spec h0 w
  obtain ⟨t', k', g1, g2, g5, g6, -⟩ := Cond.instantiable_spec wk
  cases g0.symm.trans g1
  have g7 : k'.isInterface = false := by cases q : k'.isInterface <;> simp [q] at g6 ⊢
  have ne := ids_ne h0 g0 hn
  refine ⟨c, t, h0, g0, ?_⟩
  show Z.vm.assignableAux (255 + 1) c t = false
  simp [Vm.assignableAux, ne, h2, g2, h5, g5, g7, Vm.isSubclass, n3]
theorem Ext.keepNew {h0 h h' : Heap} {wl : List Addr} (E : Ext h0 h) (K : Keep h h' wl) (q : ∀ x ∈ wl, h0.size ≤ x) : Ext h0 h' := ⟨Nat.le_trans E.1 K.1, fun a c r => K.2.1 a c (E.2 a c r) fun z => absurd (Array.getElem?_eq_some_iff.mp r).1 (Nat.not_lt.mpr (q a z))⟩
theorem Ext.trans {h0 h h' : Heap} (E : Ext h0 h) (E' : Ext h h') : Ext h0 h' := ⟨Nat.le_trans E.1 E'.1, fun a c r => E'.2 a c (E.2 a c r)⟩
theorem Ext.refl (h : Heap) : Ext h h := ⟨Nat.le_refl _, fun _ _ r => r⟩
theorem Ext.wrNew {h0 h h' : Heap} {a : Addr} {sl : Nat} {v : Value} (E : Ext h0 h) (Wq : Wr h h' a sl v) (q : h0.size ≤ a) : Ext h0 h' := Ext.keepNew E (Keep.of_wr Wq) (allS q all0)
theorem Ext.toKeep {h h' : Heap} (E : Ext h h') (wl : List Addr) : Keep h h' wl := (Keep.refl h wl).ext E
end W
end Jvm.Pilot.@@N@@
namespace Jvm.Pilot.@@N@@
open Jvm Jvm.ClassFile Sem Op Lib Jvm.Free Jvm.Stand Jvm.LawKit Jvm.RoadKit Bundle Jvm.Pilot.@@N@@.Jvm.D
theorem wd {a0 : Array Value} {Z : State} (hw : ∀ d ∈ tables_1, d.before a0 Z = true) {k : Nat} {d : Jvm.Cond} (h : tables_1[k]? = some d) : d.before a0 Z = true := hw d (List.mem_of_getElem? h)
theorem own_up {c : Int32} (h : ¬ (255 : Int32) < c) : ¬ (65535 : Int32) < c := by
  rw [Int32.lt_iff_toInt_lt] at h ⊢
  have e0 : (255 : Int32).toInt = 255 := rfl
  have e1 : (65535 : Int32).toInt = 65535 := rfl
  omega
theorem own_m255 (x : Int32) : ¬ (x &&& 255) < 0 ∧ ¬ (255 : Int32) < (x &&& 255) := by
  have q := c_mask x 255 8 (by decide) (by decide)
  have e0 : (0 : Int32).toInt = 0 := rfl
  have e1 : (255 : Int32).toInt = 255 := rfl
  rw [Int32.lt_iff_toInt_lt, Int32.lt_iff_toInt_lt]; omega
theorem own_nar255 (x : Int32) : nar .char (x &&& 255) = x &&& 255 := i2c_mask x
theorem own_mask3 (x : Int32) : (x &&& 3) = 0 ∨ (x &&& 3) = 1 ∨ (x &&& 3) = 2 ∨ (x &&& 3) = 3 := by
  have q := c_mask x 3 2 (by decide) (by decide)
  have r : (x &&& 3).toInt = 0 ∨ (x &&& 3).toInt = 1 ∨ (x &&& 3).toInt = 2 ∨ (x &&& 3).toInt = 3 := by omega
  rcases r with r | r | r | r
  · exact Or.inl (Int32.toInt_inj.mp r)
  · exact Or.inr (Or.inl (Int32.toInt_inj.mp r))
  · exact Or.inr (Or.inr (Or.inl (Int32.toInt_inj.mp r)))
  · exact Or.inr (Or.inr (Or.inr (Int32.toInt_inj.mp r)))
theorem own_rem (y : Int32) (k : Int32) (h : 0 ≤ y.toInt) (hk : 0 < k.toInt) : (y - y / k * k).toInt = y.toInt % k.toInt := by
  have d : (y / k).toInt = y.toInt / k.toInt := by
    rw [Int32.toInt_div, Int.tdiv_eq_ediv_of_nonneg h]
    have h1 : 0 ≤ y.toInt / k.toInt := Int.ediv_nonneg h (by omega)
    have h2 : y.toInt / k.toInt ≤ y.toInt := Int.ediv_le_self _ h
    have h3 := y.toInt_lt
    rw [Int.bmod_eq_of_le (by omega) (by omega)]
  have e := Int.mul_ediv_add_emod y.toInt k.toInt
  have e' : y.toInt / k.toInt * k.toInt = k.toInt * (y.toInt / k.toInt) := Int.mul_comm _ _
  have m0 := Int.emod_nonneg y.toInt (show k.toInt ≠ 0 by omega)
  have h0 : 0 ≤ k.toInt * (y.toInt / k.toInt) := Int.mul_nonneg (by omega) (Int.ediv_nonneg h (by omega))
  have h3 := y.toInt_lt
  have q : (y / k * k).toInt = y.toInt / k.toInt * k.toInt := by
    rw [Int32.toInt_mul, d, Int.bmod_eq_of_le (by omega) (by omega)]
  rw [Int32.toInt_sub, q, Int.bmod_eq_of_le (by omega) (by omega)]; omega
theorem own_eqI {args : Array Value} {first s : State} {o : Option Outcome} {idx : List Nat} {t : Term} {k : Int32} (h : (Jvm.Cond.eq t (.int k)).value args first o s idx = some true) : t.eval args first o idx s = some (.int k) := by
  obtain ⟨x, y, e1, e2, -, k2⟩ := cmp_v (Or.inl h)
  cases Option.some.inj ((Term.int_eval k).symm.trans e2)
  obtain ⟨z, rfl⟩ := k2
  rw [e1, gotT (Cond.eq_ints e1 e2) h]
theorem own_rf {C : String} {v : Value} (h : v.isRef = true) : narrow (.object C) v = v ∧ fits (.object C) v = true := by cases v <;> first | (cases h; done) | exact ⟨rfl, rfl⟩
theorem d1_0 : decode method_4_code 0 = .ok (.iload_n 0, 1) := by decide +kernel
theorem d1_1 : decode method_4_code 1 = .ok (.ifCond .ne 7, 3) := by decide +kernel
theorem d1_4 : decode method_4_code 4 = .ok (.iconst 0, 1) := by decide +kernel
theorem d1_5 : decode method_4_code 5 = .ok (.newarray .int, 2) := by decide +kernel
theorem d1_7 : decode method_4_code 7 = .ok (.areturn, 1) := by decide +kernel
theorem d1_8 : decode method_4_code 8 = .ok (.iload_n 0, 1) := by decide +kernel
theorem d1_9 : decode method_4_code 9 = .ok (.iconst 1, 1) := by decide +kernel
theorem d1_10 : decode method_4_code 10 = .ok (.if_icmp .ne 7, 3) := by decide +kernel
theorem d1_13 : decode method_4_code 13 = .ok (.iconst 1, 1) := by decide +kernel
theorem d1_14 : decode method_4_code 14 = .ok (.newarray .int, 2) := by decide +kernel
theorem d1_16 : decode method_4_code 16 = .ok (.areturn, 1) := by decide +kernel
theorem d1_17 : decode method_4_code 17 = .ok (.iload_n 0, 1) := by decide +kernel
theorem d1_18 : decode method_4_code 18 = .ok (.iconst 2, 1) := by decide +kernel
theorem d1_19 : decode method_4_code 19 = .ok (.if_icmp .ne 7, 3) := by decide +kernel
theorem d1_22 : decode method_4_code 22 = .ok (.iconst 2, 1) := by decide +kernel
theorem d1_23 : decode method_4_code 23 = .ok (.newarray .int, 2) := by decide +kernel
theorem d1_25 : decode method_4_code 25 = .ok (.areturn, 1) := by decide +kernel
theorem d1_26 : decode method_4_code 26 = .ok (.iload_n 0, 1) := by decide +kernel
theorem d1_27 : decode method_4_code 27 = .ok (.iconst 3, 1) := by decide +kernel
theorem d1_28 : decode method_4_code 28 = .ok (.if_icmp .ne 7, 3) := by decide +kernel
theorem d1_31 : decode method_4_code 31 = .ok (.iconst 3, 1) := by decide +kernel
theorem d1_32 : decode method_4_code 32 = .ok (.newarray .int, 2) := by decide +kernel
theorem d1_34 : decode method_4_code 34 = .ok (.areturn, 1) := by decide +kernel
theorem d1_35 : decode method_4_code 35 = .ok (.iconst 4, 1) := by decide +kernel
theorem d1_36 : decode method_4_code 36 = .ok (.newarray .int, 2) := by decide +kernel
theorem d1_38 : decode method_4_code 38 = .ok (.areturn, 1) := by decide +kernel
theorem d2_0 : decode method_5_code 0 = .ok (.iload_n 0, 1) := by decide +kernel
theorem d2_1 : decode method_5_code 1 = .ok (.ifCond .ne 7, 3) := by decide +kernel
theorem d2_4 : decode method_5_code 4 = .ok (.iconst 0, 1) := by decide +kernel
theorem d2_5 : decode method_5_code 5 = .ok (.newarray .float, 2) := by decide +kernel
theorem d2_7 : decode method_5_code 7 = .ok (.areturn, 1) := by decide +kernel
theorem d2_8 : decode method_5_code 8 = .ok (.iload_n 0, 1) := by decide +kernel
theorem d2_9 : decode method_5_code 9 = .ok (.iconst 1, 1) := by decide +kernel
theorem d2_10 : decode method_5_code 10 = .ok (.if_icmp .ne 7, 3) := by decide +kernel
theorem d2_13 : decode method_5_code 13 = .ok (.iconst 1, 1) := by decide +kernel
theorem d2_14 : decode method_5_code 14 = .ok (.newarray .float, 2) := by decide +kernel
theorem d2_16 : decode method_5_code 16 = .ok (.areturn, 1) := by decide +kernel
theorem d2_17 : decode method_5_code 17 = .ok (.iload_n 0, 1) := by decide +kernel
theorem d2_18 : decode method_5_code 18 = .ok (.iconst 2, 1) := by decide +kernel
theorem d2_19 : decode method_5_code 19 = .ok (.if_icmp .ne 7, 3) := by decide +kernel
theorem d2_22 : decode method_5_code 22 = .ok (.iconst 2, 1) := by decide +kernel
theorem d2_23 : decode method_5_code 23 = .ok (.newarray .float, 2) := by decide +kernel
theorem d2_25 : decode method_5_code 25 = .ok (.areturn, 1) := by decide +kernel
theorem d2_26 : decode method_5_code 26 = .ok (.iload_n 0, 1) := by decide +kernel
theorem d2_27 : decode method_5_code 27 = .ok (.iconst 3, 1) := by decide +kernel
theorem d2_28 : decode method_5_code 28 = .ok (.if_icmp .ne 7, 3) := by decide +kernel
theorem d2_31 : decode method_5_code 31 = .ok (.iconst 3, 1) := by decide +kernel
theorem d2_32 : decode method_5_code 32 = .ok (.newarray .float, 2) := by decide +kernel
theorem d2_34 : decode method_5_code 34 = .ok (.areturn, 1) := by decide +kernel
theorem d2_35 : decode method_5_code 35 = .ok (.iconst 4, 1) := by decide +kernel
theorem d2_36 : decode method_5_code 36 = .ok (.newarray .float, 2) := by decide +kernel
theorem d2_38 : decode method_5_code 38 = .ok (.areturn, 1) := by decide +kernel
theorem d3_0 : decode method_3_code 0 = .ok (.iload_n 0, 1) := by decide +kernel
theorem d3_1 : decode method_3_code 1 = .ok (.bipush 8, 2) := by decide +kernel
theorem d3_3 : decode method_3_code 3 = .ok (.iload_n 1, 1) := by decide +kernel
theorem d3_4 : decode method_3_code 4 = .ok (.imul, 1) := by decide +kernel
theorem d3_5 : decode method_3_code 5 = .ok (.ishr, 1) := by decide +kernel
theorem d3_6 : decode method_3_code 6 = .ok (.i2b, 1) := by decide +kernel
theorem d3_7 : decode method_3_code 7 = .ok (.i2d, 1) := by decide +kernel
theorem d3_8 : decode method_3_code 8 = .ok (.dreturn, 1) := by decide +kernel
theorem d4_0 : decode prog_31_method_1_code 0 = .ok (.aload_n 0, 1) := by decide +kernel
theorem d4_1 : decode prog_31_method_1_code 1 = .ok (.invokespecial 1, 3) := by decide +kernel
theorem d4_4 : decode prog_31_method_1_code 4 = .ok (.aload_n 0, 1) := by decide +kernel
theorem d4_5 : decode prog_31_method_1_code 5 = .ok (.aload_n 1, 1) := by decide +kernel
theorem d4_6 : decode prog_31_method_1_code 6 = .ok (.putfield 7, 3) := by decide +kernel
theorem d4_9 : decode prog_31_method_1_code 9 = .ok (.aload_n 0, 1) := by decide +kernel
theorem d4_10 : decode prog_31_method_1_code 10 = .ok (.aload_n 2, 1) := by decide +kernel
theorem d4_11 : decode prog_31_method_1_code 11 = .ok (.putfield 13, 3) := by decide +kernel
theorem d4_14 : decode prog_31_method_1_code 14 = .ok (.return_, 1) := by decide +kernel
theorem d6_0 : decode prog_31_method_4_code 0 = .ok (.iconst 0, 1) := by decide +kernel
theorem d6_1 : decode prog_31_method_4_code 1 = .ok (.istore 4, 2) := by decide +kernel
theorem d6_3 : decode prog_31_method_4_code 3 = .ok (.iload 4, 2) := by decide +kernel
theorem d6_5 : decode prog_31_method_4_code 5 = .ok (.aload_n 0, 1) := by decide +kernel
theorem d6_6 : decode prog_31_method_4_code 6 = .ok (.getfield 7, 3) := by decide +kernel
theorem d6_9 : decode prog_31_method_4_code 9 = .ok (.arraylength, 1) := by decide +kernel
theorem d6_10 : decode prog_31_method_4_code 10 = .ok (.if_icmp .ge 31, 3) := by decide +kernel
theorem d6_13 : decode prog_31_method_4_code 13 = .ok (.aload_n 1, 1) := by decide +kernel
theorem d6_14 : decode prog_31_method_4_code 14 = .ok (.aload_n 0, 1) := by decide +kernel
theorem d6_15 : decode prog_31_method_4_code 15 = .ok (.getfield 7, 3) := by decide +kernel
theorem d6_18 : decode prog_31_method_4_code 18 = .ok (.iload 4, 2) := by decide +kernel
theorem d6_20 : decode prog_31_method_4_code 20 = .ok (.iaload, 1) := by decide +kernel
theorem d6_21 : decode prog_31_method_4_code 21 = .ok (.dup2, 1) := by decide +kernel
theorem d6_22 : decode prog_31_method_4_code 22 = .ok (.daload, 1) := by decide +kernel
theorem d6_23 : decode prog_31_method_4_code 23 = .ok (.dload_n 2, 1) := by decide +kernel
theorem d6_24 : decode prog_31_method_4_code 24 = .ok (.aload_n 0, 1) := by decide +kernel
theorem d6_25 : decode prog_31_method_4_code 25 = .ok (.getfield 13, 3) := by decide +kernel
theorem d6_28 : decode prog_31_method_4_code 28 = .ok (.iload 4, 2) := by decide +kernel
theorem d6_30 : decode prog_31_method_4_code 30 = .ok (.faload, 1) := by decide +kernel
theorem d6_31 : decode prog_31_method_4_code 31 = .ok (.f2d, 1) := by decide +kernel
theorem d6_32 : decode prog_31_method_4_code 32 = .ok (.dmul, 1) := by decide +kernel
theorem d6_33 : decode prog_31_method_4_code 33 = .ok (.dadd, 1) := by decide +kernel
theorem d6_34 : decode prog_31_method_4_code 34 = .ok (.dastore, 1) := by decide +kernel
theorem d6_35 : decode prog_31_method_4_code 35 = .ok (.iinc 4 1, 3) := by decide +kernel
theorem d6_38 : decode prog_31_method_4_code 38 = .ok (.goto (-35), 3) := by decide +kernel
theorem d6_41 : decode prog_31_method_4_code 41 = .ok (.return_, 1) := by decide +kernel
theorem d7_0 : decode method_6_code 0 = .ok (.iload 4, 2) := by decide +kernel
theorem d7_2 : decode method_6_code 2 = .ok (.iload_n 1, 1) := by decide +kernel
theorem d7_3 : decode method_6_code 3 = .ok (.invokestatic 7, 3) := by decide +kernel
theorem d7_6 : decode method_6_code 6 = .ok (.dstore 7, 2) := by decide +kernel
theorem d7_8 : decode method_6_code 8 = .ok (.iload_n 2, 1) := by decide +kernel
theorem d7_9 : decode method_6_code 9 = .ok (.iload_n 1, 1) := by decide +kernel
theorem d7_10 : decode method_6_code 10 = .ok (.ishr, 1) := by decide +kernel
theorem d7_11 : decode method_6_code 11 = .ok (.iconst 1, 1) := by decide +kernel
theorem d7_12 : decode method_6_code 12 = .ok (.iand, 1) := by decide +kernel
theorem d7_13 : decode method_6_code 13 = .ok (.ifCond .eq 20, 3) := by decide +kernel
theorem d7_16 : decode method_6_code 16 = .ok (.dload 7, 2) := by decide +kernel
theorem d7_18 : decode method_6_code 18 = .ok (.dload 5, 2) := by decide +kernel
theorem d7_20 : decode method_6_code 20 = .ok (.iload_n 3, 1) := by decide +kernel
theorem d7_21 : decode method_6_code 21 = .ok (.iload_n 1, 1) := by decide +kernel
theorem d7_22 : decode method_6_code 22 = .ok (.invokestatic 13, 3) := by decide +kernel
theorem d7_25 : decode method_6_code 25 = .ok (.f2d, 1) := by decide +kernel
theorem d7_26 : decode method_6_code 26 = .ok (.dmul, 1) := by decide +kernel
theorem d7_27 : decode method_6_code 27 = .ok (.dadd, 1) := by decide +kernel
theorem d7_28 : decode method_6_code 28 = .ok (.dstore 9, 2) := by decide +kernel
theorem d7_30 : decode method_6_code 30 = .ok (.goto 7, 3) := by decide +kernel
theorem d7_33 : decode method_6_code 33 = .ok (.dload 7, 2) := by decide +kernel
theorem d7_35 : decode method_6_code 35 = .ok (.dstore 9, 2) := by decide +kernel
theorem d7_37 : decode method_6_code 37 = .ok (.aload_n 0, 1) := by decide +kernel
theorem d7_38 : decode method_6_code 38 = .ok (.iload_n 1, 1) := by decide +kernel
theorem d7_39 : decode method_6_code 39 = .ok (.daload, 1) := by decide +kernel
theorem d7_40 : decode method_6_code 40 = .ok (.dload 9, 2) := by decide +kernel
theorem d7_42 : decode method_6_code 42 = .ok (.dcmp .l, 1) := by decide +kernel
theorem d7_43 : decode method_6_code 43 = .ok (.ifCond .ne 7, 3) := by decide +kernel
theorem d7_46 : decode method_6_code 46 = .ok (.iconst 1, 1) := by decide +kernel
theorem d7_47 : decode method_6_code 47 = .ok (.goto 4, 3) := by decide +kernel
theorem d7_51 : decode method_6_code 51 = .ok (.ireturn, 1) := by decide +kernel
theorem d8_0 : decode method_2_code 0 = .ok (.iload_n 0, 1) := by decide +kernel
theorem d8_1 : decode method_2_code 1 = .ok (.bipush 8, 2) := by decide +kernel
theorem d8_3 : decode method_2_code 3 = .ok (.iload_n 1, 1) := by decide +kernel
theorem d8_4 : decode method_2_code 4 = .ok (.imul, 1) := by decide +kernel
theorem d8_5 : decode method_2_code 5 = .ok (.ishr, 1) := by decide +kernel
theorem d8_6 : decode method_2_code 6 = .ok (.i2b, 1) := by decide +kernel
theorem d8_7 : decode method_2_code 7 = .ok (.istore_n 2, 1) := by decide +kernel
theorem d8_8 : decode method_2_code 8 = .ok (.iload_n 2, 1) := by decide +kernel
theorem d8_9 : decode method_2_code 9 = .ok (.ifCond .ne 7, 3) := by decide +kernel
theorem d8_12 : decode method_2_code 12 = .ok (.sipush 128, 3) := by decide +kernel
theorem d8_15 : decode method_2_code 15 = .ok (.istore_n 2, 1) := by decide +kernel
theorem d8_16 : decode method_2_code 16 = .ok (.iload_n 2, 1) := by decide +kernel
theorem d8_17 : decode method_2_code 17 = .ok (.i2f, 1) := by decide +kernel
theorem d8_18 : decode method_2_code 18 = .ok (.freturn, 1) := by decide +kernel
theorem pn_com_example_intent_search_intentsearch_rank_CategoryVectorAddToPinLaw : plainName "com/example/intent_search/intentsearch/rank/CategoryVectorAddToPinLaw" = true := by first | (simp [plainName, overriddenIn]; done) | decide +kernel
theorem pn_com_example_intent_search_intentsearch_rank_CategoryVector : plainName "com/example/intent_search/intentsearch/rank/CategoryVector" = true := by first | (simp [plainName, overriddenIn]; done) | decide +kernel
theorem pd_II_R_D : parseMethodDescriptor "(II)D" = some ⟨[.int, .int], some .double⟩ := by decide +kernel
theorem pd_II_R_F : parseMethodDescriptor "(II)F" = some ⟨[.int, .int], some .float⟩ := by decide +kernel
theorem pd_I_R_AI : parseMethodDescriptor "(I)[I" = some ⟨[.int], some (.array .int)⟩ := by decide +kernel
theorem pd_I_R_AF : parseMethodDescriptor "(I)[F" = some ⟨[.int], some (.array .float)⟩ := by decide +kernel
theorem pd_AIAF_R_V : parseMethodDescriptor "([I[F)V" = some ⟨[(.array .int), (.array .float)], none⟩ := by decide +kernel
theorem pd_ADD_R_V : parseMethodDescriptor "([DD)V" = some ⟨[(.array .double), .double], none⟩ := by decide +kernel
theorem pd_ADIIIID_R_Z : parseMethodDescriptor "([DIIIID)Z" = some ⟨[(.array .double), .int, .int, .int, .int, .double], some .boolean⟩ := by decide +kernel
open Jvm.FP.Core in
theorem own_zl {a : Int64} (h : -9007199254740992 < a.toInt ∧ a.toInt < 9007199254740992) : zval b64 (val64 (l2d a)) = a.toInt * (one64 : Int) := by
  have w := whole_zval good_b64 (val64_fits (l2d a)) (l2d_whole (a := a) h)
  rw [pow_qmin64] at w; exact w
open Jvm.FP.Core in
/-- the double z is the whole number a (0 of either sign) -/
def Num (z : UInt64) (a : Int) : Prop := (∃ s c q, val64 z = .fin s c q) ∧ zval b64 (val64 z) = a * (one64 : Int)
open Jvm.FP.Core in
theorem Num.nn {z : UInt64} {a : Int} (h : Num z a) : val64 z ≠ .nan := by
  obtain ⟨⟨s, c, q, e⟩, -⟩ := h; rw [e]; simp
open Jvm.FP.Core in
theorem Num.ofL {a : Int64} (h : -9007199254740992 < a.toInt ∧ a.toInt < 9007199254740992) : Num (l2d a) a.toInt := by
  obtain ⟨c, q, e⟩ := l2d_shape a
  exact ⟨⟨_, c, q, e⟩, own_zl h⟩
open Jvm.FP.Core in
theorem Num.of_round {z : UInt64} {s : Bool} {c : Nat} {q e0 : Int} {a : Int} (hz : val64 z = round b64 (.fin s c q)) (h0 : e0 ≤ b64.qmin) (h0e : e0 ≤ q) (hv : signed s (inUnits c q e0) = a * (one64 : Int) * ((2 ^ (b64.qmin - e0).toNat : Nat) : Int)) (h : -9007199254740992 < a ∧ a < 9007199254740992) : Num z a := by
  have eA : (Int64.ofInt a).toInt = a := Int64.toInt_ofInt_of_le (by omega) (by omega)
  have zA : zval b64 (val64 (l2d (Int64.ofInt a))) = a * (one64 : Int) := by rw [own_zl (by rw [eA]; exact h), eA]
  have l1 := zval_round_le good_b64 (s := s) (c := c) (q := q) (e0 := e0) (val64_fits (l2d (Int64.ofInt a))) (l2d_fin _).ne_nan h0 h0e (by rw [zA, hv]; exact Int.le_refl _)
  have l2 := zval_round_ge good_b64 (s := s) (c := c) (q := q) (e0 := e0) (val64_fits (l2d (Int64.ofInt a))) (l2d_fin _).ne_nan h0 h0e (by rw [zA, hv]; exact Int.le_refl _)
  have ez : zval b64 (val64 z) = a * (one64 : Int) := by rw [hz, ← zA]; exact Int.le_antisymm l1 l2
  refine ⟨?_, ez⟩
  rw [hz] at ez ⊢
  rcases roundRatio_cases b64 s c 1 q with ⟨c', q', r⟩ | r
  · exact ⟨s, c', q', r⟩
  · exfalso
    have r' : round b64 (.fin s c q) = .inf s := r
    rw [r'] at ez
    have big : (9007199254740992 : Int) * (one64 : Int) < ((b64.tails * 2 ^ (b64.exps - 2) : Nat) : Int) := by decide +kernel
    have u1 : a * (one64 : Int) ≤ 9007199254740992 * (one64 : Int) := Int.mul_le_mul_of_nonneg_right (by omega) (by decide +kernel)
    have u2 : -9007199254740992 * (one64 : Int) ≤ a * (one64 : Int) := Int.mul_le_mul_of_nonneg_right (by omega) (by decide +kernel)
    rw [Int.neg_mul] at u2
    rw [← ez] at u1 u2
    cases s
    · have e : zval b64 (.inf false) = ((b64.tails * 2 ^ (b64.exps - 2) : Nat) : Int) := rfl
      rw [e] at u1; exact absurd (Int.lt_of_lt_of_le big u1) (Int.lt_irrefl _)
    · have e : zval b64 (.inf true) = -((b64.tails * 2 ^ (b64.exps - 2) : Nat) : Int) := rfl
      rw [e] at u2
      have := Int.le_of_neg_le_neg u2
      exact absurd (Int.lt_of_lt_of_le big this) (Int.lt_irrefl _)
open Jvm.FP.Core in
theorem Num.add {x y : UInt64} {a b : Int} (hx : Num x a) (hy : Num y b) (h : -9007199254740992 < a + b ∧ a + b < 9007199254740992) : Num (dadd x y) (a + b) := by
  obtain ⟨⟨s, c, q, ex⟩, zx⟩ := hx
  obtain ⟨⟨t, d, r, ey⟩, zy⟩ := hy
  have fx := val64_fits x
  have fy := val64_fits y
  rw [ex] at fx zx
  rw [ey] at fy zy
  obtain ⟨sg, n, e, es, he, hs⟩ := sum_units fx fy
  refine Num.of_round (s := sg) (c := n) (q := e) (by rw [val64_dadd, ex, ey, es]) (Int.le_refl b64.qmin) he ?_ h
  rw [hs, zx, zy, Int.sub_self, Int.add_mul]; show _ = _ * ((1 : Nat) : Int); rw [show ((1 : Nat) : Int) = 1 from rfl, Int.mul_one]
open Jvm.FP.Core in
theorem own_sg (s t : Bool) (m n : Nat) : signed (s != t) (m * n) = signed s m * signed t n := by
  cases s <;> cases t <;> simp [signed, Int.mul_neg, Int.neg_mul]
open Jvm.FP.Core in
theorem Num.mul {x y : UInt64} {a b : Int} (hx : Num x a) (hy : Num y b) (h : -9007199254740992 < a * b ∧ a * b < 9007199254740992) : Num (dmul x y) (a * b) := by
  obtain ⟨⟨s, c, q, ex⟩, zx⟩ := hx
  obtain ⟨⟨t, d, r, ey⟩, zy⟩ := hy
  have fx := val64_fits x
  have fy := val64_fits y
  rw [ex] at fx zx
  rw [ey] at fy zy
  obtain ⟨es, he, hs⟩ := product_units fx fy
  have hq : 2 * b64.qmin ≤ b64.qmin := by decide +kernel
  refine Num.of_round (s := s != t) (c := c * d) (q := q + r) (e0 := 2 * b64.qmin) (by rw [val64_dmul, ex, ey, es]) hq he ?_ h
  rw [hs, own_sg]
  have e1 : signed s (zmag b64 (.fin s c q)) = a * (one64 : Int) := zx
  have e2 : signed t (zmag b64 (.fin t d r)) = b * (one64 : Int) := zy
  have e3 : ((2 ^ (b64.qmin - 2 * b64.qmin).toNat : Nat) : Int) = (one64 : Int) := by decide +kernel
  rw [e1, e2, e3]
  simp only [Int.mul_assoc, Int.mul_comm, Int.mul_left_comm]
open Jvm.FP.Core in
theorem Num.cmp {x y : UInt64} {a : Int} (hx : Num x a) (hy : Num y a) (o : CmpOp) : cmpValue (FP.dcmp x y) o = 0 := by
  have e : FP.dcmp x y = _ := dcmp_zval hx.nn hy.nn
  rw [e, hx.2, hy.2, show compare (a * (one64 : Int)) (a * (one64 : Int)) = .eq from by simp [compare, compareOfLessAndEq]]; cases o <;> rfl
theorem Num.no {z : UInt64} {a : Int} (h : Num z a) : Jvm.Free.Fl.NoNaN64 z := Jvm.Free.Fl.val64_no.mpr h.nn
theorem Num.ofF {v : Int32} (h : -16777216 ≤ v.toInt ∧ v.toInt ≤ 16777216) : Num (FP.f2d (FP.i2f v)) v.toInt := by
  have e : FP.f2d (FP.i2f v) = FP.l2d v.toInt64 := by
    rw [i2f_w, FP.f2d_core (a := FP.l2f v.toInt64) (FP.Core.l2f_notNaN _)]; exact FP.Core.f2d_l2f (by rw [Int32.toInt_toInt64 v]; omega)
  rw [e, ← Int32.toInt_toInt64 v]
  exact Num.ofL (by rw [Int32.toInt_toInt64 v]; omega)

def own_db (u k : Int32) : Int32 := (u >>> ((8 * k) &&& 31)).toInt8.toInt32
def own_vb (u k : Int32) : Int32 := if ¬ own_db u k = 0 then own_db u k else 128
theorem own_dbb (u k : Int32) : -128 ≤ (own_db u k).toInt ∧ (own_db u k).toInt ≤ 127 := by
  unfold own_db
  rw [Int8.toInt_toInt32]
  have h1 := (u >>> ((8 * k) &&& 31)).toInt8.le_toInt
  have h2 := (u >>> ((8 * k) &&& 31)).toInt8.toInt_lt
  omega
theorem own_vbb (u k : Int32) : -128 ≤ (own_vb u k).toInt ∧ (own_vb u k).toInt ≤ 128 := by
  have h := own_dbb u k
  unfold own_vb
  split
  · omega
  · decide
theorem own_ni {v : Int32} : Num (FP.i2d v) v.toInt := by
  have a := v.toInt_lt
  have b := v.le_toInt
  rw [i2d_w, ← Int32.toInt_toInt64 v]
  exact Num.ofL (by rw [Int32.toInt_toInt64 v]; omega)
theorem own_mulb {v w : Int} (hv : -2147483648 ≤ v ∧ v < 2147483648) (hw : -128 ≤ w ∧ w ≤ 128) : -274877906944 ≤ v * w ∧ v * w ≤ 274877906944 := by
  have h : (v * w).natAbs ≤ 2147483648 * 128 := by rw [Int.natAbs_mul]; exact Nat.mul_le_mul (by omega) (by omega)
  omega
theorem own_one {f b w : Int32} (hb : -128 ≤ b.toInt ∧ b.toInt ≤ 127) (hw : -128 ≤ w.toInt ∧ w.toInt ≤ 128) : Jvm.Free.Fl.NoNaN64 (FP.f2d (FP.i2f w)) ∧ Jvm.Free.Fl.NoNaN64 (FP.dmul (FP.i2d f) (FP.f2d (FP.i2f w))) ∧ Jvm.Free.Fl.NoNaN64 (FP.dadd (FP.i2d b) (FP.dmul (FP.i2d f) (FP.f2d (FP.i2f w)))) := by
  have m := own_mulb ⟨f.le_toInt, f.toInt_lt⟩ hw
  have n1 := Num.ofF (v := w) (by omega)
  have n2 := (own_ni (v := f)).mul n1 (by omega)
  have n3 := (own_ni (v := b)).add n2 (by omega)
  exact ⟨n1.no, n2.no, n3.no⟩
theorem own_self {b : Int32} : cmpValue (FP.dcmp (FP.i2d b) (FP.i2d b)) .l = 0 := dcmpV_self own_ni.no .l
theorem own_mask15 (x : Int32) : x &&& 15 = 0 ∨ x &&& 15 = 1 ∨ x &&& 15 = 2 ∨ x &&& 15 = 3 ∨ x &&& 15 = 4 ∨ x &&& 15 = 5 ∨ x &&& 15 = 6 ∨ x &&& 15 = 7 ∨ x &&& 15 = 8 ∨ x &&& 15 = 9 ∨ x &&& 15 = 10 ∨ x &&& 15 = 11 ∨ x &&& 15 = 12 ∨ x &&& 15 = 13 ∨ x &&& 15 = 14 ∨ x &&& 15 = 15 := by
  have q := c_mask x 15 4 (by decide) (by decide)
  have k : ∀ i : Nat, i < 2147483648 → (x &&& 15).toInt = i → x &&& 15 = Int32.ofNat i := fun i hi e => Int32.toInt_inj.mp (by rw [e]; exact (Int32.toInt_ofNat_of_lt hi).symm)
  obtain ⟨n, hn⟩ : ∃ n : Nat, (x &&& 15).toInt = n := ⟨(x &&& 15).toInt.toNat, by omega⟩
  have hl : n < 16 := by omega
  have e := k n (by omega) hn
  rw [e]
  match n, hl with
  | 0, _ => exact Or.inl rfl
  | 1, _ => exact Or.inr (Or.inl rfl)
  | 2, _ => exact Or.inr (Or.inr (Or.inl rfl))
  | 3, _ => exact Or.inr (Or.inr (Or.inr (Or.inl rfl)))
  | 4, _ => exact Or.inr (Or.inr (Or.inr (Or.inr (Or.inl rfl))))
  | 5, _ => exact Or.inr (Or.inr (Or.inr (Or.inr (Or.inr (Or.inl rfl)))))
  | 6, _ => exact Or.inr (Or.inr (Or.inr (Or.inr (Or.inr (Or.inr (Or.inl rfl))))))
  | 7, _ => exact Or.inr (Or.inr (Or.inr (Or.inr (Or.inr (Or.inr (Or.inr (Or.inl rfl)))))))
  | 8, _ => exact Or.inr (Or.inr (Or.inr (Or.inr (Or.inr (Or.inr (Or.inr (Or.inr (Or.inl rfl))))))))
  | 9, _ => exact Or.inr (Or.inr (Or.inr (Or.inr (Or.inr (Or.inr (Or.inr (Or.inr (Or.inr (Or.inl rfl)))))))))
  | 10, _ => exact Or.inr (Or.inr (Or.inr (Or.inr (Or.inr (Or.inr (Or.inr (Or.inr (Or.inr (Or.inr (Or.inl rfl))))))))))
  | 11, _ => exact Or.inr (Or.inr (Or.inr (Or.inr (Or.inr (Or.inr (Or.inr (Or.inr (Or.inr (Or.inr (Or.inr (Or.inl rfl)))))))))))
  | 12, _ => exact Or.inr (Or.inr (Or.inr (Or.inr (Or.inr (Or.inr (Or.inr (Or.inr (Or.inr (Or.inr (Or.inr (Or.inr (Or.inl rfl))))))))))))
  | 13, _ => exact Or.inr (Or.inr (Or.inr (Or.inr (Or.inr (Or.inr (Or.inr (Or.inr (Or.inr (Or.inr (Or.inr (Or.inr (Or.inr (Or.inl rfl)))))))))))))
  | 14, _ => exact Or.inr (Or.inr (Or.inr (Or.inr (Or.inr (Or.inr (Or.inr (Or.inr (Or.inr (Or.inr (Or.inr (Or.inr (Or.inr (Or.inr (Or.inl rfl))))))))))))))
  | 15, _ => exact Or.inr (Or.inr (Or.inr (Or.inr (Or.inr (Or.inr (Or.inr (Or.inr (Or.inr (Or.inr (Or.inr (Or.inr (Or.inr (Or.inr (Or.inr (rfl)))))))))))))))
  | n + 16, hl => exact absurd hl (by omega)
set_option maxRecDepth 65536 in
set_option maxHeartbeats 40000000 in
theorem c_dv (l : Launch) (Z : State) (a0 : Array Value) (hw : ∀ d ∈ tables_1, d.before a0 Z = true) (u k : Int32) (h0 : Heap) : W.MetN l Z (⟨"com/example/intent_search/intentsearch/rank/CategoryVectorAddToPinLaw", "dv", "(II)D"⟩ : MethodName) method_3_code 2 ((Option.some Jvm.ClassFile.FieldType.double)) [] ({ frames := 0, cells := 0, slots := 0, locals := 0 } : Room) #[.int u, .int k]  h0 (W.Pure (some (.double (FP.i2d (own_db u k)))) h0) := by
  refine W.MetN.mk (ls0 := #[.val (.int u), .val (.int k)]) [] (plainFor_of_name pn_com_example_intent_search_intentsearch_rank_CategoryVectorAddToPinLaw) (fun m => by first | (simp [entryFrame, mkF, argsToLocals, Value.category]; done) | rfl) ?_
  intro p e s m below meth c s₁ hml hret hnm hlk P0
  show W.Go p.tables e below _ (s₁.setTop (mkF m 0 #[.val (.int u), .val (.int k)] []))
  refine W.g_iloadN (pc1 := 1) P0.q d3_0 rfl rfl ?_
  refine W.g_bipush (pc1 := 3) (v := (8 : Int32)) P0.q d3_1 (by decide) rfl ?_
  refine W.g_iloadN (pc1 := 4) P0.q d3_3 rfl rfl ?_
  refine W.g_imul (pc1 := 5) P0.q d3_4 rfl ?_
  refine W.g_ishr (pc1 := 6) P0.q d3_5 rfl ?_
  refine W.g_i2b (pc1 := 7) P0.q d3_6 rfl ?_
  refine W.g_i2d (pc1 := 8) P0.q d3_7 rfl ?_
  exact P0.retDN hlk hret d3_8 (by decide) (by decide) ⟨rfl, rfl, rfl⟩
set_option maxRecDepth 65536 in
set_option maxHeartbeats 40000000 in
theorem c_val (l : Launch) (Z : State) (a0 : Array Value) (hw : ∀ d ∈ tables_1, d.before a0 Z = true) (u k : Int32) (h0 : Heap) : W.MetN l Z (⟨"com/example/intent_search/intentsearch/rank/CategoryVectorAddToPinLaw", "val", "(II)F"⟩ : MethodName) method_2_code 3 ((Option.some Jvm.ClassFile.FieldType.float)) [] ({ frames := 0, cells := 0, slots := 0, locals := 0 } : Room) #[.int u, .int k]  h0 (W.Pure (some (.float (FP.i2f (own_vb u k)))) h0) := by
  refine W.MetN.mk (ls0 := #[.val (.int u), .val (.int k), .unset]) [] (plainFor_of_name pn_com_example_intent_search_intentsearch_rank_CategoryVectorAddToPinLaw) (fun m => by first | (simp [entryFrame, mkF, argsToLocals, Value.category]; done) | rfl) ?_
  intro p e s m below meth c s₁ hml hret hnm hlk P0
  show W.Go p.tables e below _ (s₁.setTop (mkF m 0 #[.val (.int u), .val (.int k), .unset] []))
  refine W.g_iloadN (pc1 := 1) P0.q d8_0 rfl rfl ?_
  refine W.g_bipush (pc1 := 3) (v := (8 : Int32)) P0.q d8_1 (by decide) rfl ?_
  refine W.g_iloadN (pc1 := 4) P0.q d8_3 rfl rfl ?_
  refine W.g_imul (pc1 := 5) P0.q d8_4 rfl ?_
  refine W.g_ishr (pc1 := 6) P0.q d8_5 rfl ?_
  refine W.g_i2b (pc1 := 7) P0.q d8_6 rfl ?_
  refine W.g_istoreN (pc1 := 8) (ls2 := #[.val (.int u), .val (.int k), .val (.int (u >>> (((8 : Int32) * k) &&& 31)).toInt8.toInt32)]) P0.q d8_7 rfl rfl ?_
  refine W.g_iloadN (pc1 := 9) P0.q d8_8 rfl rfl ?_
  refine W.g_if (pc1 := 16) (pc2 := 12) P0.q d8_9 (by decide) rfl rfl (fun (h1 : ¬ (u >>> (((8 : Int32) * k) &&& 31)).toInt8.toInt32 = 0) => ?_) (fun (h1 : ¬ (¬ (u >>> (((8 : Int32) * k) &&& 31)).toInt8.toInt32 = 0)) => ?_)
  · refine W.g_iloadN (pc1 := 17) P0.q d8_16 rfl rfl ?_
    refine W.g_i2f (pc1 := 18) P0.q d8_17 rfl ?_
    exact P0.retFN hlk hret d8_18 (by decide) (by decide) ⟨by rw [own_vb, if_pos (show ¬ own_db u k = 0 from h1)]; rfl, rfl, rfl⟩
  · refine W.g_sipush (pc1 := 15) (v := (128 : Int32)) P0.q d8_12 (by decide) rfl ?_
    refine W.g_istoreN (pc1 := 16) (ls2 := #[.val (.int u), .val (.int k), .val (.int (128 : Int32))]) P0.q d8_15 rfl rfl ?_
    refine W.g_iloadN (pc1 := 17) P0.q d8_16 rfl rfl ?_
    refine W.g_i2f (pc1 := 18) P0.q d8_17 rfl ?_
    exact P0.retFN hlk hret d8_18 (by decide) (by decide) ⟨by rw [own_vb, if_neg (show ¬ ¬ own_db u k = 0 from h1)], rfl, rfl⟩
def Qi0 (Z : State) (h0 : Heap) (v : Option Value) (h : Heap) (L : List Loc) : Prop := ∃ t k, v = some (.ref t) ∧ W.Frw [] h0.size L ∧ Ext h0 h ∧ h0.size ≤ t ∧ Arv Z h t k .int 0 (List.replicate 0 (.int 0)) (.int 0)
set_option maxRecDepth 65536 in
set_option maxHeartbeats 40000000 in
theorem c_ni0 (l : Launch) (Z : State) (a0 : Array Value) (hw : ∀ d ∈ tables_1, d.before a0 Z = true) (h0 : Heap) : W.MetN l Z (⟨"com/example/intent_search/intentsearch/rank/CategoryVectorAddToPinLaw", "newInts", "(I)[I"⟩ : MethodName) method_4_code 1 ((Option.some (Jvm.ClassFile.FieldType.array Jvm.ClassFile.FieldType.int))) [] ({ frames := 0, cells := 1, slots := 4, locals := 0 } : Room) #[.int 0]  h0 (Qi0 Z h0) := by
  refine W.MetN.mk (ls0 := #[.val (.int (0 : Int32))]) [] (plainFor_of_name pn_com_example_intent_search_intentsearch_rank_CategoryVectorAddToPinLaw) (fun m => by first | (simp [entryFrame, mkF, argsToLocals, Value.category]; done) | rfl) ?_
  intro p e s m below meth c s₁ hml hret hnm hlk P0
  show W.Go p.tables e below _ (s₁.setTop (mkF m 0 #[.val (.int (0 : Int32))] []))
  refine W.g_iloadN (pc1 := 1) P0.q d1_0 rfl rfl ?_
  refine W.g_ifN (pc2 := 4) P0.q d1_1 rfl (by decide) ?_
  refine W.g_iconst (pc1 := 5) (v := (0 : Int32)) P0.q d1_4 (by decide) rfl ?_
  refine P0.newP (pc1 := 7) (cap := 0) (wd hw (k := 4) rfl) (by decide) (by decide) (by decide) (by decide) (by decide) d1_5 rfl ?_
  intro T101 h101 x101 k101 g101 P101 E101 V101
  exact P101.retAN hlk hret rfl rfl rfl d1_7 (by decide) (by decide) ⟨_, _, rfl, P101.fr, P101.ext0, Nat.le_of_eq g101.symm, V101⟩
def Qi1 (Z : State) (h0 : Heap) (v : Option Value) (h : Heap) (L : List Loc) : Prop := ∃ t k, v = some (.ref t) ∧ W.Frw [] h0.size L ∧ Ext h0 h ∧ h0.size ≤ t ∧ Arv Z h t k .int 1 (List.replicate 1 (.int 0)) (.int 0)
set_option maxRecDepth 65536 in
set_option maxHeartbeats 40000000 in
theorem c_ni1 (l : Launch) (Z : State) (a0 : Array Value) (hw : ∀ d ∈ tables_1, d.before a0 Z = true) (h0 : Heap) : W.MetN l Z (⟨"com/example/intent_search/intentsearch/rank/CategoryVectorAddToPinLaw", "newInts", "(I)[I"⟩ : MethodName) method_4_code 1 ((Option.some (Jvm.ClassFile.FieldType.array Jvm.ClassFile.FieldType.int))) [] ({ frames := 0, cells := 1, slots := 4, locals := 0 } : Room) #[.int 1]  h0 (Qi1 Z h0) := by
  refine W.MetN.mk (ls0 := #[.val (.int (1 : Int32))]) [] (plainFor_of_name pn_com_example_intent_search_intentsearch_rank_CategoryVectorAddToPinLaw) (fun m => by first | (simp [entryFrame, mkF, argsToLocals, Value.category]; done) | rfl) ?_
  intro p e s m below meth c s₁ hml hret hnm hlk P0
  show W.Go p.tables e below _ (s₁.setTop (mkF m 0 #[.val (.int (1 : Int32))] []))
  refine W.g_iloadN (pc1 := 1) P0.q d1_0 rfl rfl ?_
  refine W.g_ifY (pc1 := 8) P0.q d1_1 (by decide) rfl (by decide) ?_
  refine W.g_iloadN (pc1 := 9) P0.q d1_8 rfl rfl ?_
  refine W.g_iconst (pc1 := 10) (v := (1 : Int32)) P0.q d1_9 (by decide) rfl ?_
  refine W.g_cmpN (pc2 := 13) P0.q d1_10 rfl (by decide) ?_
  refine W.g_iconst (pc1 := 14) (v := (1 : Int32)) P0.q d1_13 (by decide) rfl ?_
  refine P0.newP (pc1 := 16) (cap := 1) (wd hw (k := 4) rfl) (by decide) (by decide) (by decide) (by decide) (by decide) d1_14 rfl ?_
  intro T102 h102 x102 k102 g102 P102 E102 V102
  exact P102.retAN hlk hret rfl rfl rfl d1_16 (by decide) (by decide) ⟨_, _, rfl, P102.fr, P102.ext0, Nat.le_of_eq g102.symm, V102⟩
def Qi2 (Z : State) (h0 : Heap) (v : Option Value) (h : Heap) (L : List Loc) : Prop := ∃ t k, v = some (.ref t) ∧ W.Frw [] h0.size L ∧ Ext h0 h ∧ h0.size ≤ t ∧ Arv Z h t k .int 2 (List.replicate 2 (.int 0)) (.int 0)
set_option maxRecDepth 65536 in
set_option maxHeartbeats 40000000 in
theorem c_ni2 (l : Launch) (Z : State) (a0 : Array Value) (hw : ∀ d ∈ tables_1, d.before a0 Z = true) (h0 : Heap) : W.MetN l Z (⟨"com/example/intent_search/intentsearch/rank/CategoryVectorAddToPinLaw", "newInts", "(I)[I"⟩ : MethodName) method_4_code 1 ((Option.some (Jvm.ClassFile.FieldType.array Jvm.ClassFile.FieldType.int))) [] ({ frames := 0, cells := 1, slots := 4, locals := 0 } : Room) #[.int 2]  h0 (Qi2 Z h0) := by
  refine W.MetN.mk (ls0 := #[.val (.int (2 : Int32))]) [] (plainFor_of_name pn_com_example_intent_search_intentsearch_rank_CategoryVectorAddToPinLaw) (fun m => by first | (simp [entryFrame, mkF, argsToLocals, Value.category]; done) | rfl) ?_
  intro p e s m below meth c s₁ hml hret hnm hlk P0
  show W.Go p.tables e below _ (s₁.setTop (mkF m 0 #[.val (.int (2 : Int32))] []))
  refine W.g_iloadN (pc1 := 1) P0.q d1_0 rfl rfl ?_
  refine W.g_ifY (pc1 := 8) P0.q d1_1 (by decide) rfl (by decide) ?_
  refine W.g_iloadN (pc1 := 9) P0.q d1_8 rfl rfl ?_
  refine W.g_iconst (pc1 := 10) (v := (1 : Int32)) P0.q d1_9 (by decide) rfl ?_
  refine W.g_cmpY (pc1 := 17) P0.q d1_10 (by decide) rfl (by decide) ?_
  refine W.g_iloadN (pc1 := 18) P0.q d1_17 rfl rfl ?_
  refine W.g_iconst (pc1 := 19) (v := (2 : Int32)) P0.q d1_18 (by decide) rfl ?_
  refine W.g_cmpN (pc2 := 22) P0.q d1_19 rfl (by decide) ?_
  refine W.g_iconst (pc1 := 23) (v := (2 : Int32)) P0.q d1_22 (by decide) rfl ?_
  refine P0.newP (pc1 := 25) (cap := 2) (wd hw (k := 4) rfl) (by decide) (by decide) (by decide) (by decide) (by decide) d1_23 rfl ?_
  intro T103 h103 x103 k103 g103 P103 E103 V103
  exact P103.retAN hlk hret rfl rfl rfl d1_25 (by decide) (by decide) ⟨_, _, rfl, P103.fr, P103.ext0, Nat.le_of_eq g103.symm, V103⟩
def Qi3 (Z : State) (h0 : Heap) (v : Option Value) (h : Heap) (L : List Loc) : Prop := ∃ t k, v = some (.ref t) ∧ W.Frw [] h0.size L ∧ Ext h0 h ∧ h0.size ≤ t ∧ Arv Z h t k .int 3 (List.replicate 3 (.int 0)) (.int 0)
set_option maxRecDepth 65536 in
set_option maxHeartbeats 40000000 in
theorem c_ni3 (l : Launch) (Z : State) (a0 : Array Value) (hw : ∀ d ∈ tables_1, d.before a0 Z = true) (h0 : Heap) : W.MetN l Z (⟨"com/example/intent_search/intentsearch/rank/CategoryVectorAddToPinLaw", "newInts", "(I)[I"⟩ : MethodName) method_4_code 1 ((Option.some (Jvm.ClassFile.FieldType.array Jvm.ClassFile.FieldType.int))) [] ({ frames := 0, cells := 1, slots := 4, locals := 0 } : Room) #[.int 3]  h0 (Qi3 Z h0) := by
  refine W.MetN.mk (ls0 := #[.val (.int (3 : Int32))]) [] (plainFor_of_name pn_com_example_intent_search_intentsearch_rank_CategoryVectorAddToPinLaw) (fun m => by first | (simp [entryFrame, mkF, argsToLocals, Value.category]; done) | rfl) ?_
  intro p e s m below meth c s₁ hml hret hnm hlk P0
  show W.Go p.tables e below _ (s₁.setTop (mkF m 0 #[.val (.int (3 : Int32))] []))
  refine W.g_iloadN (pc1 := 1) P0.q d1_0 rfl rfl ?_
  refine W.g_ifY (pc1 := 8) P0.q d1_1 (by decide) rfl (by decide) ?_
  refine W.g_iloadN (pc1 := 9) P0.q d1_8 rfl rfl ?_
  refine W.g_iconst (pc1 := 10) (v := (1 : Int32)) P0.q d1_9 (by decide) rfl ?_
  refine W.g_cmpY (pc1 := 17) P0.q d1_10 (by decide) rfl (by decide) ?_
  refine W.g_iloadN (pc1 := 18) P0.q d1_17 rfl rfl ?_
  refine W.g_iconst (pc1 := 19) (v := (2 : Int32)) P0.q d1_18 (by decide) rfl ?_
  refine W.g_cmpY (pc1 := 26) P0.q d1_19 (by decide) rfl (by decide) ?_
  refine W.g_iloadN (pc1 := 27) P0.q d1_26 rfl rfl ?_
  refine W.g_iconst (pc1 := 28) (v := (3 : Int32)) P0.q d1_27 (by decide) rfl ?_
  refine W.g_cmpN (pc2 := 31) P0.q d1_28 rfl (by decide) ?_
  refine W.g_iconst (pc1 := 32) (v := (3 : Int32)) P0.q d1_31 (by decide) rfl ?_
  refine P0.newP (pc1 := 34) (cap := 3) (wd hw (k := 4) rfl) (by decide) (by decide) (by decide) (by decide) (by decide) d1_32 rfl ?_
  intro T104 h104 x104 k104 g104 P104 E104 V104
  exact P104.retAN hlk hret rfl rfl rfl d1_34 (by decide) (by decide) ⟨_, _, rfl, P104.fr, P104.ext0, Nat.le_of_eq g104.symm, V104⟩
def Qi4 (Z : State) (h0 : Heap) (v : Option Value) (h : Heap) (L : List Loc) : Prop := ∃ t k, v = some (.ref t) ∧ W.Frw [] h0.size L ∧ Ext h0 h ∧ h0.size ≤ t ∧ Arv Z h t k .int 4 (List.replicate 4 (.int 0)) (.int 0)
set_option maxRecDepth 65536 in
set_option maxHeartbeats 40000000 in
theorem c_ni4 (l : Launch) (Z : State) (a0 : Array Value) (hw : ∀ d ∈ tables_1, d.before a0 Z = true) (h0 : Heap) : W.MetN l Z (⟨"com/example/intent_search/intentsearch/rank/CategoryVectorAddToPinLaw", "newInts", "(I)[I"⟩ : MethodName) method_4_code 1 ((Option.some (Jvm.ClassFile.FieldType.array Jvm.ClassFile.FieldType.int))) [] ({ frames := 0, cells := 1, slots := 4, locals := 0 } : Room) #[.int 4]  h0 (Qi4 Z h0) := by
  refine W.MetN.mk (ls0 := #[.val (.int (4 : Int32))]) [] (plainFor_of_name pn_com_example_intent_search_intentsearch_rank_CategoryVectorAddToPinLaw) (fun m => by first | (simp [entryFrame, mkF, argsToLocals, Value.category]; done) | rfl) ?_
  intro p e s m below meth c s₁ hml hret hnm hlk P0
  show W.Go p.tables e below _ (s₁.setTop (mkF m 0 #[.val (.int (4 : Int32))] []))
  refine W.g_iloadN (pc1 := 1) P0.q d1_0 rfl rfl ?_
  refine W.g_ifY (pc1 := 8) P0.q d1_1 (by decide) rfl (by decide) ?_
  refine W.g_iloadN (pc1 := 9) P0.q d1_8 rfl rfl ?_
  refine W.g_iconst (pc1 := 10) (v := (1 : Int32)) P0.q d1_9 (by decide) rfl ?_
  refine W.g_cmpY (pc1 := 17) P0.q d1_10 (by decide) rfl (by decide) ?_
  refine W.g_iloadN (pc1 := 18) P0.q d1_17 rfl rfl ?_
  refine W.g_iconst (pc1 := 19) (v := (2 : Int32)) P0.q d1_18 (by decide) rfl ?_
  refine W.g_cmpY (pc1 := 26) P0.q d1_19 (by decide) rfl (by decide) ?_
  refine W.g_iloadN (pc1 := 27) P0.q d1_26 rfl rfl ?_
  refine W.g_iconst (pc1 := 28) (v := (3 : Int32)) P0.q d1_27 (by decide) rfl ?_
  refine W.g_cmpY (pc1 := 35) P0.q d1_28 (by decide) rfl (by decide) ?_
  refine W.g_iconst (pc1 := 36) (v := (4 : Int32)) P0.q d1_35 (by decide) rfl ?_
  refine P0.newP (pc1 := 38) (cap := 4) (wd hw (k := 4) rfl) (by decide) (by decide) (by decide) (by decide) (by decide) d1_36 rfl ?_
  intro T105 h105 x105 k105 g105 P105 E105 V105
  exact P105.retAN hlk hret rfl rfl rfl d1_38 (by decide) (by decide) ⟨_, _, rfl, P105.fr, P105.ext0, Nat.le_of_eq g105.symm, V105⟩
def Qf0 (Z : State) (h0 : Heap) (v : Option Value) (h : Heap) (L : List Loc) : Prop := ∃ t k, v = some (.ref t) ∧ W.Frw [] h0.size L ∧ Ext h0 h ∧ h0.size ≤ t ∧ Arv Z h t k .float 0 (List.replicate 0 (.float 0)) (.float 0)
set_option maxRecDepth 65536 in
set_option maxHeartbeats 40000000 in
theorem c_nf0 (l : Launch) (Z : State) (a0 : Array Value) (hw : ∀ d ∈ tables_1, d.before a0 Z = true) (h0 : Heap) : W.MetN l Z (⟨"com/example/intent_search/intentsearch/rank/CategoryVectorAddToPinLaw", "newFloats", "(I)[F"⟩ : MethodName) method_5_code 1 ((Option.some (Jvm.ClassFile.FieldType.array Jvm.ClassFile.FieldType.float))) [] ({ frames := 0, cells := 1, slots := 4, locals := 0 } : Room) #[.int 0]  h0 (Qf0 Z h0) := by
  refine W.MetN.mk (ls0 := #[.val (.int (0 : Int32))]) [] (plainFor_of_name pn_com_example_intent_search_intentsearch_rank_CategoryVectorAddToPinLaw) (fun m => by first | (simp [entryFrame, mkF, argsToLocals, Value.category]; done) | rfl) ?_
  intro p e s m below meth c s₁ hml hret hnm hlk P0
  show W.Go p.tables e below _ (s₁.setTop (mkF m 0 #[.val (.int (0 : Int32))] []))
  refine W.g_iloadN (pc1 := 1) P0.q d2_0 rfl rfl ?_
  refine W.g_ifN (pc2 := 4) P0.q d2_1 rfl (by decide) ?_
  refine W.g_iconst (pc1 := 5) (v := (0 : Int32)) P0.q d2_4 (by decide) rfl ?_
  refine P0.newP (pc1 := 7) (cap := 0) (wd hw (k := 8) rfl) (by decide) (by decide) (by decide) (by decide) (by decide) d2_5 rfl ?_
  intro T106 h106 x106 k106 g106 P106 E106 V106
  exact P106.retAN hlk hret rfl rfl rfl d2_7 (by decide) (by decide) ⟨_, _, rfl, P106.fr, P106.ext0, Nat.le_of_eq g106.symm, V106⟩
def Qf1 (Z : State) (h0 : Heap) (v : Option Value) (h : Heap) (L : List Loc) : Prop := ∃ t k, v = some (.ref t) ∧ W.Frw [] h0.size L ∧ Ext h0 h ∧ h0.size ≤ t ∧ Arv Z h t k .float 1 (List.replicate 1 (.float 0)) (.float 0)
set_option maxRecDepth 65536 in
set_option maxHeartbeats 40000000 in
theorem c_nf1 (l : Launch) (Z : State) (a0 : Array Value) (hw : ∀ d ∈ tables_1, d.before a0 Z = true) (h0 : Heap) : W.MetN l Z (⟨"com/example/intent_search/intentsearch/rank/CategoryVectorAddToPinLaw", "newFloats", "(I)[F"⟩ : MethodName) method_5_code 1 ((Option.some (Jvm.ClassFile.FieldType.array Jvm.ClassFile.FieldType.float))) [] ({ frames := 0, cells := 1, slots := 4, locals := 0 } : Room) #[.int 1]  h0 (Qf1 Z h0) := by
  refine W.MetN.mk (ls0 := #[.val (.int (1 : Int32))]) [] (plainFor_of_name pn_com_example_intent_search_intentsearch_rank_CategoryVectorAddToPinLaw) (fun m => by first | (simp [entryFrame, mkF, argsToLocals, Value.category]; done) | rfl) ?_
  intro p e s m below meth c s₁ hml hret hnm hlk P0
  show W.Go p.tables e below _ (s₁.setTop (mkF m 0 #[.val (.int (1 : Int32))] []))
  refine W.g_iloadN (pc1 := 1) P0.q d2_0 rfl rfl ?_
  refine W.g_ifY (pc1 := 8) P0.q d2_1 (by decide) rfl (by decide) ?_
  refine W.g_iloadN (pc1 := 9) P0.q d2_8 rfl rfl ?_
  refine W.g_iconst (pc1 := 10) (v := (1 : Int32)) P0.q d2_9 (by decide) rfl ?_
  refine W.g_cmpN (pc2 := 13) P0.q d2_10 rfl (by decide) ?_
  refine W.g_iconst (pc1 := 14) (v := (1 : Int32)) P0.q d2_13 (by decide) rfl ?_
  refine P0.newP (pc1 := 16) (cap := 1) (wd hw (k := 8) rfl) (by decide) (by decide) (by decide) (by decide) (by decide) d2_14 rfl ?_
  intro T107 h107 x107 k107 g107 P107 E107 V107
  exact P107.retAN hlk hret rfl rfl rfl d2_16 (by decide) (by decide) ⟨_, _, rfl, P107.fr, P107.ext0, Nat.le_of_eq g107.symm, V107⟩
def Qf2 (Z : State) (h0 : Heap) (v : Option Value) (h : Heap) (L : List Loc) : Prop := ∃ t k, v = some (.ref t) ∧ W.Frw [] h0.size L ∧ Ext h0 h ∧ h0.size ≤ t ∧ Arv Z h t k .float 2 (List.replicate 2 (.float 0)) (.float 0)
set_option maxRecDepth 65536 in
set_option maxHeartbeats 40000000 in
theorem c_nf2 (l : Launch) (Z : State) (a0 : Array Value) (hw : ∀ d ∈ tables_1, d.before a0 Z = true) (h0 : Heap) : W.MetN l Z (⟨"com/example/intent_search/intentsearch/rank/CategoryVectorAddToPinLaw", "newFloats", "(I)[F"⟩ : MethodName) method_5_code 1 ((Option.some (Jvm.ClassFile.FieldType.array Jvm.ClassFile.FieldType.float))) [] ({ frames := 0, cells := 1, slots := 4, locals := 0 } : Room) #[.int 2]  h0 (Qf2 Z h0) := by
  refine W.MetN.mk (ls0 := #[.val (.int (2 : Int32))]) [] (plainFor_of_name pn_com_example_intent_search_intentsearch_rank_CategoryVectorAddToPinLaw) (fun m => by first | (simp [entryFrame, mkF, argsToLocals, Value.category]; done) | rfl) ?_
  intro p e s m below meth c s₁ hml hret hnm hlk P0
  show W.Go p.tables e below _ (s₁.setTop (mkF m 0 #[.val (.int (2 : Int32))] []))
  refine W.g_iloadN (pc1 := 1) P0.q d2_0 rfl rfl ?_
  refine W.g_ifY (pc1 := 8) P0.q d2_1 (by decide) rfl (by decide) ?_
  refine W.g_iloadN (pc1 := 9) P0.q d2_8 rfl rfl ?_
  refine W.g_iconst (pc1 := 10) (v := (1 : Int32)) P0.q d2_9 (by decide) rfl ?_
  refine W.g_cmpY (pc1 := 17) P0.q d2_10 (by decide) rfl (by decide) ?_
  refine W.g_iloadN (pc1 := 18) P0.q d2_17 rfl rfl ?_
  refine W.g_iconst (pc1 := 19) (v := (2 : Int32)) P0.q d2_18 (by decide) rfl ?_
  refine W.g_cmpN (pc2 := 22) P0.q d2_19 rfl (by decide) ?_
  refine W.g_iconst (pc1 := 23) (v := (2 : Int32)) P0.q d2_22 (by decide) rfl ?_
  refine P0.newP (pc1 := 25) (cap := 2) (wd hw (k := 8) rfl) (by decide) (by decide) (by decide) (by decide) (by decide) d2_23 rfl ?_
  intro T108 h108 x108 k108 g108 P108 E108 V108
  exact P108.retAN hlk hret rfl rfl rfl d2_25 (by decide) (by decide) ⟨_, _, rfl, P108.fr, P108.ext0, Nat.le_of_eq g108.symm, V108⟩
def Qf3 (Z : State) (h0 : Heap) (v : Option Value) (h : Heap) (L : List Loc) : Prop := ∃ t k, v = some (.ref t) ∧ W.Frw [] h0.size L ∧ Ext h0 h ∧ h0.size ≤ t ∧ Arv Z h t k .float 3 (List.replicate 3 (.float 0)) (.float 0)
set_option maxRecDepth 65536 in
set_option maxHeartbeats 40000000 in
theorem c_nf3 (l : Launch) (Z : State) (a0 : Array Value) (hw : ∀ d ∈ tables_1, d.before a0 Z = true) (h0 : Heap) : W.MetN l Z (⟨"com/example/intent_search/intentsearch/rank/CategoryVectorAddToPinLaw", "newFloats", "(I)[F"⟩ : MethodName) method_5_code 1 ((Option.some (Jvm.ClassFile.FieldType.array Jvm.ClassFile.FieldType.float))) [] ({ frames := 0, cells := 1, slots := 4, locals := 0 } : Room) #[.int 3]  h0 (Qf3 Z h0) := by
  refine W.MetN.mk (ls0 := #[.val (.int (3 : Int32))]) [] (plainFor_of_name pn_com_example_intent_search_intentsearch_rank_CategoryVectorAddToPinLaw) (fun m => by first | (simp [entryFrame, mkF, argsToLocals, Value.category]; done) | rfl) ?_
  intro p e s m below meth c s₁ hml hret hnm hlk P0
  show W.Go p.tables e below _ (s₁.setTop (mkF m 0 #[.val (.int (3 : Int32))] []))
  refine W.g_iloadN (pc1 := 1) P0.q d2_0 rfl rfl ?_
  refine W.g_ifY (pc1 := 8) P0.q d2_1 (by decide) rfl (by decide) ?_
  refine W.g_iloadN (pc1 := 9) P0.q d2_8 rfl rfl ?_
  refine W.g_iconst (pc1 := 10) (v := (1 : Int32)) P0.q d2_9 (by decide) rfl ?_
  refine W.g_cmpY (pc1 := 17) P0.q d2_10 (by decide) rfl (by decide) ?_
  refine W.g_iloadN (pc1 := 18) P0.q d2_17 rfl rfl ?_
  refine W.g_iconst (pc1 := 19) (v := (2 : Int32)) P0.q d2_18 (by decide) rfl ?_
  refine W.g_cmpY (pc1 := 26) P0.q d2_19 (by decide) rfl (by decide) ?_
  refine W.g_iloadN (pc1 := 27) P0.q d2_26 rfl rfl ?_
  refine W.g_iconst (pc1 := 28) (v := (3 : Int32)) P0.q d2_27 (by decide) rfl ?_
  refine W.g_cmpN (pc2 := 31) P0.q d2_28 rfl (by decide) ?_
  refine W.g_iconst (pc1 := 32) (v := (3 : Int32)) P0.q d2_31 (by decide) rfl ?_
  refine P0.newP (pc1 := 34) (cap := 3) (wd hw (k := 8) rfl) (by decide) (by decide) (by decide) (by decide) (by decide) d2_32 rfl ?_
  intro T109 h109 x109 k109 g109 P109 E109 V109
  exact P109.retAN hlk hret rfl rfl rfl d2_34 (by decide) (by decide) ⟨_, _, rfl, P109.fr, P109.ext0, Nat.le_of_eq g109.symm, V109⟩
def Qf4 (Z : State) (h0 : Heap) (v : Option Value) (h : Heap) (L : List Loc) : Prop := ∃ t k, v = some (.ref t) ∧ W.Frw [] h0.size L ∧ Ext h0 h ∧ h0.size ≤ t ∧ Arv Z h t k .float 4 (List.replicate 4 (.float 0)) (.float 0)
set_option maxRecDepth 65536 in
set_option maxHeartbeats 40000000 in
theorem c_nf4 (l : Launch) (Z : State) (a0 : Array Value) (hw : ∀ d ∈ tables_1, d.before a0 Z = true) (h0 : Heap) : W.MetN l Z (⟨"com/example/intent_search/intentsearch/rank/CategoryVectorAddToPinLaw", "newFloats", "(I)[F"⟩ : MethodName) method_5_code 1 ((Option.some (Jvm.ClassFile.FieldType.array Jvm.ClassFile.FieldType.float))) [] ({ frames := 0, cells := 1, slots := 4, locals := 0 } : Room) #[.int 4]  h0 (Qf4 Z h0) := by
  refine W.MetN.mk (ls0 := #[.val (.int (4 : Int32))]) [] (plainFor_of_name pn_com_example_intent_search_intentsearch_rank_CategoryVectorAddToPinLaw) (fun m => by first | (simp [entryFrame, mkF, argsToLocals, Value.category]; done) | rfl) ?_
  intro p e s m below meth c s₁ hml hret hnm hlk P0
  show W.Go p.tables e below _ (s₁.setTop (mkF m 0 #[.val (.int (4 : Int32))] []))
  refine W.g_iloadN (pc1 := 1) P0.q d2_0 rfl rfl ?_
  refine W.g_ifY (pc1 := 8) P0.q d2_1 (by decide) rfl (by decide) ?_
  refine W.g_iloadN (pc1 := 9) P0.q d2_8 rfl rfl ?_
  refine W.g_iconst (pc1 := 10) (v := (1 : Int32)) P0.q d2_9 (by decide) rfl ?_
  refine W.g_cmpY (pc1 := 17) P0.q d2_10 (by decide) rfl (by decide) ?_
  refine W.g_iloadN (pc1 := 18) P0.q d2_17 rfl rfl ?_
  refine W.g_iconst (pc1 := 19) (v := (2 : Int32)) P0.q d2_18 (by decide) rfl ?_
  refine W.g_cmpY (pc1 := 26) P0.q d2_19 (by decide) rfl (by decide) ?_
  refine W.g_iloadN (pc1 := 27) P0.q d2_26 rfl rfl ?_
  refine W.g_iconst (pc1 := 28) (v := (3 : Int32)) P0.q d2_27 (by decide) rfl ?_
  refine W.g_cmpY (pc1 := 35) P0.q d2_28 (by decide) rfl (by decide) ?_
  refine W.g_iconst (pc1 := 36) (v := (4 : Int32)) P0.q d2_35 (by decide) rfl ?_
  refine P0.newP (pc1 := 38) (cap := 4) (wd hw (k := 8) rfl) (by decide) (by decide) (by decide) (by decide) (by decide) d2_36 rfl ?_
  intro T110 h110 x110 k110 g110 P110 E110 V110
  exact P110.retAN hlk hret rfl rfl rfl d2_38 (by decide) (by decide) ⟨_, _, rfl, P110.fr, P110.ext0, Nat.le_of_eq g110.symm, V110⟩
def QCv (Z : State) (x td tv : Addr) (h0 : Heap) (v : Option Value) (h : Heap) (L : List Loc) : Prop := v = none ∧ W.Frw [x] h0.size L ∧ Keep h0 h [x] ∧ Exa Z h x "com/example/intent_search/intentsearch/rank/CategoryVector" ∧ Fld Z h x "com/example/intent_search/intentsearch/rank/CategoryVector" "dimensions" "[I" (.ref td) ∧ Fld Z h x "com/example/intent_search/intentsearch/rank/CategoryVector" "values" "[F" (.ref tv)
set_option maxRecDepth 65536 in
set_option maxHeartbeats 40000000 in
theorem c_cv (l : Launch) (Z : State) (a0 : Array Value) (hw : ∀ d ∈ tables_1, d.before a0 Z = true) (x td tv : Addr) (h0 : Heap) (E0 : Exa Z h0 x "com/example/intent_search/intentsearch/rank/CategoryVector") (vdimensions : Value) (Fdimensions : Fld Z h0 x "com/example/intent_search/intentsearch/rank/CategoryVector" "dimensions" "[I" vdimensions) (vvalues : Value) (Fvalues : Fld Z h0 x "com/example/intent_search/intentsearch/rank/CategoryVector" "values" "[F" vvalues) : W.MetN l Z (⟨"com/example/intent_search/intentsearch/rank/CategoryVector", "<init>", "([I[F)V"⟩ : MethodName) prog_31_method_1_code 3 ((Option.none : Option Jvm.ClassFile.FieldType)) [] ({ frames := 1, cells := 0, slots := 0, locals := 14 } : Room) #[.ref x, .ref td, .ref tv]  h0 (QCv Z x td tv h0) := by
  refine W.MetN.mk (ls0 := #[.val (.ref x), .val (.ref td), .val (.ref tv)]) [x] (plainFor_of_name pn_com_example_intent_search_intentsearch_rank_CategoryVector) (fun m => by first | (simp [entryFrame, mkF, argsToLocals, Value.category]; done) | rfl) ?_
  intro p e s m below meth c s₁ hml hret hnm hlk P0
  show W.Go p.tables e below _ (s₁.setTop (mkF m 0 #[.val (.ref x), .val (.ref td), .val (.ref tv)] []))
  refine W.g_aloadN (pc1 := 1) P0.q d4_0 rfl rfl rfl ?_
  refine P0.initO (pc1 := 4) (W := 0) (wd hw (k := 19) rfl) (wd hw (k := 20) rfl) (wd hw (k := 21) rfl) (by rw [hml]; rfl) (by decide) (Nat.le_of_eq rfl) (by decide) d4_1 rfl ?_
  intro T111 P111
  refine W.g_aloadN (pc1 := 5) P111.q d4_4 rfl rfl rfl ?_
  refine W.g_aloadN (pc1 := 6) P111.q d4_5 rfl rfl rfl ?_
  refine P111.putF (host := "") (pc1 := 9) (Or.inl (wd hw (k := 22) rfl)) Via.refl Fdimensions E0 (Or.inr ⟨(wd hw (k := 23) rfl), rfl, hnm⟩) (wd hw (k := 14) rfl) (ty := (.array .int)) (by decide) rfl rfl (Or.inl (List.mem_singleton.mpr rfl)) (Safe.exa P111.al E0 (by decide) (by decide)) d4_6 rfl ?_
  intro T112 h112 P112 W112
  have G112_dimensions := Fdimensions.same W112
  have G112_values := Fvalues.other W112 (Or.inr (slot_ne (t := (.array .float)) (t' := (.array .int)) (Or.inr (wd hw (k := 25) rfl)) (Or.inr (wd hw (k := 23) rfl)) (by decide) (by decide) (by decide)))
  have EE112 := E0.wr W112
  refine W.g_aloadN (pc1 := 10) P112.q d4_9 rfl rfl rfl ?_
  refine W.g_aloadN (pc1 := 11) P112.q d4_10 rfl rfl rfl ?_
  refine P112.putF (host := "") (pc1 := 14) (Or.inl (wd hw (k := 24) rfl)) Via.refl G112_values EE112 (Or.inr ⟨(wd hw (k := 25) rfl), rfl, hnm⟩) (wd hw (k := 14) rfl) (ty := (.array .float)) (by decide) rfl rfl (Or.inl (List.mem_singleton.mpr rfl)) (Safe.exa P112.al EE112 (by decide) (by decide)) d4_11 rfl ?_
  intro T113 h113 P113 W113
  have G113_dimensions := G112_dimensions.other W113 (Or.inr (slot_ne (t := (.array .int)) (t' := (.array .float)) (Or.inr (wd hw (k := 23) rfl)) (Or.inr (wd hw (k := 25) rfl)) (by decide) (by decide) (by decide)))
  have G113_values := G112_values.same W113
  have EE113 := EE112.wr W113
  exact P113.retN hlk hret d4_14 (by decide) (by decide) ⟨rfl, P113.fr, P113.keep, EE113, G113_dimensions, G113_values⟩
def QA0 (Z : State) (tz : Addr) (kz : ClassId) (b0 b1 b2 b3 ff : UInt64) (h0 : Heap) (v : Option Value) (h : Heap) (L : List Loc) : Prop := v = none ∧ W.Frw [tz] h0.size L ∧ Keep h0 h [tz] ∧ Arv Z h tz kz .double 4 [.double b0, .double b1, .double b2, .double b3] (.double 0)
set_option maxRecDepth 65536 in
set_option maxHeartbeats 40000000 in
theorem c_add0 (l : Launch) (Z : State) (a0 : Array Value) (hw : ∀ d ∈ tables_1, d.before a0 Z = true) (x td tv tz : Addr) (kd kv kz : ClassId) (b0 b1 b2 b3 ff : UInt64)  (h0 : Heap) (E0 : Exa Z h0 x "com/example/intent_search/intentsearch/rank/CategoryVector") (Fd : Fld Z h0 x "com/example/intent_search/intentsearch/rank/CategoryVector" "dimensions" "[I" (.ref td)) (Fv : Fld Z h0 x "com/example/intent_search/intentsearch/rank/CategoryVector" "values" "[F" (.ref tv)) (Vd : Arv Z h0 td kd .int 0 [] (.int 0)) (Vv : Arv Z h0 tv kv .float 0 [] (.float 0)) (Vz : Arv Z h0 tz kz .double 4 [.double b0, .double b1, .double b2, .double b3] (.double 0)) (hd : td ≠ tz) (hv : tv ≠ tz) (hx : x ≠ tz) : W.MetN l Z (⟨"com/example/intent_search/intentsearch/rank/CategoryVector", "addTo", "([DD)V"⟩ : MethodName) prog_31_method_4_code 5 ((Option.none : Option Jvm.ClassFile.FieldType)) [] ({ frames := 0, cells := 0, slots := 0, locals := 0 } : Room) #[.ref x, .ref tz, .double ff]  h0 (QA0 Z tz kz b0 b1 b2 b3 ff h0) := by
  refine W.MetN.mk (ls0 := #[.val (.ref x), .val (.ref tz), .val (.double ff), .second, .unset]) [tz] (plainFor_of_name pn_com_example_intent_search_intentsearch_rank_CategoryVector) (fun m => by first | (simp [entryFrame, mkF, argsToLocals, Value.category]; done) | rfl) ?_
  intro p e s m below meth c s₁ hml hret hnm hlk P0
  show W.Go p.tables e below _ (s₁.setTop (mkF m 0 #[.val (.ref x), .val (.ref tz), .val (.double ff), .second, .unset] []))
  refine W.g_iconst (pc1 := 1) (v := (0 : Int32)) P0.q d6_0 (by decide) rfl ?_
  refine W.g_istore (pc1 := 3) (ls2 := #[.val (.ref x), .val (.ref tz), .val (.double ff), .second, .val (.int (0 : Int32))]) P0.q d6_1 rfl rfl ?_
  refine W.g_iload (pc1 := 5) P0.q d6_3 rfl rfl ?_
  refine W.g_aloadN (pc1 := 6) P0.q d6_5 rfl rfl rfl ?_
  refine P0.getF (host := "") (pc1 := 9) (Or.inl (wd hw (k := 22) rfl)) Via.refl Fd d6_6 rfl ?_
  intro T114 P114
  refine P114.len (pc1 := 10) Vd d6_9 rfl ?_
  refine W.g_cmpY (pc1 := 41) P114.q d6_10 (by decide) rfl (by decide) ?_
  exact P114.retN hlk hret d6_41 (by decide) (by decide) ⟨rfl, P114.fr, P114.keep, Vz⟩
def QA1 (Z : State) (tz : Addr) (kz : ClassId) (b0 b1 b2 b3 ff : UInt64) (f0 : UInt32) (h0 : Heap) (v : Option Value) (h : Heap) (L : List Loc) : Prop := v = none ∧ W.Frw [tz] h0.size L ∧ Keep h0 h [tz] ∧ Arv Z h tz kz .double 4 [.double (FP.dadd b0 (FP.dmul ff (FP.f2d f0))), .double b1, .double b2, .double b3] (.double 0)
set_option maxRecDepth 65536 in
set_option maxHeartbeats 40000000 in
theorem c_add1 (l : Launch) (Z : State) (a0 : Array Value) (hw : ∀ d ∈ tables_1, d.before a0 Z = true) (x td tv tz : Addr) (kd kv kz : ClassId) (b0 b1 b2 b3 ff : UInt64) (f0 : UInt32) (hf0 : Jvm.Free.Fl.NoNaN64 (FP.f2d f0)) (hm0 : Jvm.Free.Fl.NoNaN64 (FP.dmul ff (FP.f2d f0))) (ha0 : Jvm.Free.Fl.NoNaN64 (FP.dadd b0 (FP.dmul ff (FP.f2d f0)))) (h0 : Heap) (E0 : Exa Z h0 x "com/example/intent_search/intentsearch/rank/CategoryVector") (Fd : Fld Z h0 x "com/example/intent_search/intentsearch/rank/CategoryVector" "dimensions" "[I" (.ref td)) (Fv : Fld Z h0 x "com/example/intent_search/intentsearch/rank/CategoryVector" "values" "[F" (.ref tv)) (Vd : Arv Z h0 td kd .int 1 [.int 0] (.int 0)) (Vv : Arv Z h0 tv kv .float 1 [.float f0] (.float 0)) (Vz : Arv Z h0 tz kz .double 4 [.double b0, .double b1, .double b2, .double b3] (.double 0)) (hd : td ≠ tz) (hv : tv ≠ tz) (hx : x ≠ tz) : W.MetN l Z (⟨"com/example/intent_search/intentsearch/rank/CategoryVector", "addTo", "([DD)V"⟩ : MethodName) prog_31_method_4_code 5 ((Option.none : Option Jvm.ClassFile.FieldType)) [] ({ frames := 0, cells := 0, slots := 0, locals := 0 } : Room) #[.ref x, .ref tz, .double ff]  h0 (QA1 Z tz kz b0 b1 b2 b3 ff f0 h0) := by
  refine W.MetN.mk (ls0 := #[.val (.ref x), .val (.ref tz), .val (.double ff), .second, .unset]) [tz] (plainFor_of_name pn_com_example_intent_search_intentsearch_rank_CategoryVector) (fun m => by first | (simp [entryFrame, mkF, argsToLocals, Value.category]; done) | rfl) ?_
  intro p e s m below meth c s₁ hml hret hnm hlk P0
  show W.Go p.tables e below _ (s₁.setTop (mkF m 0 #[.val (.ref x), .val (.ref tz), .val (.double ff), .second, .unset] []))
  refine W.g_iconst (pc1 := 1) (v := (0 : Int32)) P0.q d6_0 (by decide) rfl ?_
  refine W.g_istore (pc1 := 3) (ls2 := #[.val (.ref x), .val (.ref tz), .val (.double ff), .second, .val (.int (0 : Int32))]) P0.q d6_1 rfl rfl ?_
  refine W.g_iload (pc1 := 5) P0.q d6_3 rfl rfl ?_
  refine W.g_aloadN (pc1 := 6) P0.q d6_5 rfl rfl rfl ?_
  refine P0.getF (host := "") (pc1 := 9) (Or.inl (wd hw (k := 22) rfl)) Via.refl Fd d6_6 rfl ?_
  intro T115 P115
  refine P115.len (pc1 := 10) Vd d6_9 rfl ?_
  refine W.g_cmpN (pc2 := 13) P115.q d6_10 rfl (by decide) ?_
  refine W.g_aloadN (pc1 := 14) P115.q d6_13 rfl rfl rfl ?_
  refine W.g_aloadN (pc1 := 15) P115.q d6_14 rfl rfl rfl ?_
  refine P115.getF (host := "") (pc1 := 18) (Or.inl (wd hw (k := 22) rfl)) Via.refl Fd d6_15 rfl ?_
  intro T116 P116
  refine W.g_iload (pc1 := 20) P116.q d6_18 rfl rfl ?_
  refine P116.ldI (pc1 := 21) (v := (.int (0 : Int32))) Vd (by decide) (by decide) rfl d6_20 rfl ?_
  refine W.g_dup2 (pc1 := 22) P116.q d6_21 rfl rfl rfl ?_
  refine P116.ldD (pc1 := 23) (v := (.double b0)) Vz (by decide) (by decide) rfl d6_22 rfl ?_
  refine W.g_dloadN (pc1 := 24) P116.q d6_23 rfl rfl ?_
  refine W.g_aloadN (pc1 := 25) P116.q d6_24 rfl rfl rfl ?_
  refine P116.getF (host := "") (pc1 := 28) (Or.inl (wd hw (k := 24) rfl)) Via.refl Fv d6_25 rfl ?_
  intro T117 P117
  refine W.g_iload (pc1 := 30) P117.q d6_28 rfl rfl ?_
  refine P117.ldF (pc1 := 31) (v := (.float f0)) Vv (by decide) (by decide) rfl d6_30 rfl ?_
  refine W.g_f2d (pc1 := 32) P117.q d6_31 hf0 rfl ?_
  refine W.g_dmul (pc1 := 33) P117.q d6_32 hm0 rfl ?_
  refine W.g_dadd (pc1 := 34) P117.q d6_33 ha0 rfl ?_
  refine P117.stD (pc1 := 35) (i := 0) Vz (by decide) (by decide) (Nat.le_of_ble_eq_true rfl) rfl (Or.inl (List.mem_singleton.mpr rfl)) (Safe.arv P117.al Vz (by decide)) d6_34 rfl ?_
  intro T118 h118 P118 W118 V118
  have Fd118 := Fd.other W118 (Or.inl hx)
  have Fv118 := Fv.other W118 (Or.inl hx)
  have Vd118 := Vd.other W118 hd
  have Vv118 := Vv.other W118 hv
  refine W.g_iinc (pc1 := 38) (ls2 := #[.val (.ref x), .val (.ref tz), .val (.double ff), .second, .val (.int ((0 : Int32) + Int32.ofInt 1))]) P118.q d6_35 rfl rfl rfl ?_
  refine W.g_goto (pc1 := 3) P118.q d6_38 (by decide) rfl ?_
  refine W.g_iload (pc1 := 5) P118.q d6_3 rfl rfl ?_
  refine W.g_aloadN (pc1 := 6) P118.q d6_5 rfl rfl rfl ?_
  refine P118.getF (host := "") (pc1 := 9) (Or.inl (wd hw (k := 22) rfl)) Via.refl Fd118 d6_6 rfl ?_
  intro T119 P119
  refine P119.len (pc1 := 10) Vd118 d6_9 rfl ?_
  show W.Go p.tables e below _ (T119.setTop (mkF m 10 #[.val (.ref x), .val (.ref tz), .val (.double ff), .second, .val (.int (1 : Int32))] [(.int (1 : Int32)), (.int (1 : Int32))]))
  refine W.g_cmpY (pc1 := 41) P119.q d6_10 (by decide) rfl (by decide) ?_
  exact P119.retN hlk hret d6_41 (by decide) (by decide) ⟨rfl, P119.fr, P119.keep, V118⟩
def QA2 (Z : State) (tz : Addr) (kz : ClassId) (b0 b1 b2 b3 ff : UInt64) (f0 : UInt32) (h0 : Heap) (v : Option Value) (h : Heap) (L : List Loc) : Prop := v = none ∧ W.Frw [tz] h0.size L ∧ Keep h0 h [tz] ∧ Arv Z h tz kz .double 4 [.double b0, .double (FP.dadd b1 (FP.dmul ff (FP.f2d f0))), .double b2, .double b3] (.double 0)
set_option maxRecDepth 65536 in
set_option maxHeartbeats 40000000 in
theorem c_add2 (l : Launch) (Z : State) (a0 : Array Value) (hw : ∀ d ∈ tables_1, d.before a0 Z = true) (x td tv tz : Addr) (kd kv kz : ClassId) (b0 b1 b2 b3 ff : UInt64) (f0 : UInt32) (hf0 : Jvm.Free.Fl.NoNaN64 (FP.f2d f0)) (hm0 : Jvm.Free.Fl.NoNaN64 (FP.dmul ff (FP.f2d f0))) (ha0 : Jvm.Free.Fl.NoNaN64 (FP.dadd b1 (FP.dmul ff (FP.f2d f0)))) (h0 : Heap) (E0 : Exa Z h0 x "com/example/intent_search/intentsearch/rank/CategoryVector") (Fd : Fld Z h0 x "com/example/intent_search/intentsearch/rank/CategoryVector" "dimensions" "[I" (.ref td)) (Fv : Fld Z h0 x "com/example/intent_search/intentsearch/rank/CategoryVector" "values" "[F" (.ref tv)) (Vd : Arv Z h0 td kd .int 1 [.int 1] (.int 0)) (Vv : Arv Z h0 tv kv .float 1 [.float f0] (.float 0)) (Vz : Arv Z h0 tz kz .double 4 [.double b0, .double b1, .double b2, .double b3] (.double 0)) (hd : td ≠ tz) (hv : tv ≠ tz) (hx : x ≠ tz) : W.MetN l Z (⟨"com/example/intent_search/intentsearch/rank/CategoryVector", "addTo", "([DD)V"⟩ : MethodName) prog_31_method_4_code 5 ((Option.none : Option Jvm.ClassFile.FieldType)) [] ({ frames := 0, cells := 0, slots := 0, locals := 0 } : Room) #[.ref x, .ref tz, .double ff]  h0 (QA2 Z tz kz b0 b1 b2 b3 ff f0 h0) := by
  refine W.MetN.mk (ls0 := #[.val (.ref x), .val (.ref tz), .val (.double ff), .second, .unset]) [tz] (plainFor_of_name pn_com_example_intent_search_intentsearch_rank_CategoryVector) (fun m => by first | (simp [entryFrame, mkF, argsToLocals, Value.category]; done) | rfl) ?_
  intro p e s m below meth c s₁ hml hret hnm hlk P0
  show W.Go p.tables e below _ (s₁.setTop (mkF m 0 #[.val (.ref x), .val (.ref tz), .val (.double ff), .second, .unset] []))
  refine W.g_iconst (pc1 := 1) (v := (0 : Int32)) P0.q d6_0 (by decide) rfl ?_
  refine W.g_istore (pc1 := 3) (ls2 := #[.val (.ref x), .val (.ref tz), .val (.double ff), .second, .val (.int (0 : Int32))]) P0.q d6_1 rfl rfl ?_
  refine W.g_iload (pc1 := 5) P0.q d6_3 rfl rfl ?_
  refine W.g_aloadN (pc1 := 6) P0.q d6_5 rfl rfl rfl ?_
  refine P0.getF (host := "") (pc1 := 9) (Or.inl (wd hw (k := 22) rfl)) Via.refl Fd d6_6 rfl ?_
  intro T120 P120
  refine P120.len (pc1 := 10) Vd d6_9 rfl ?_
  refine W.g_cmpN (pc2 := 13) P120.q d6_10 rfl (by decide) ?_
  refine W.g_aloadN (pc1 := 14) P120.q d6_13 rfl rfl rfl ?_
  refine W.g_aloadN (pc1 := 15) P120.q d6_14 rfl rfl rfl ?_
  refine P120.getF (host := "") (pc1 := 18) (Or.inl (wd hw (k := 22) rfl)) Via.refl Fd d6_15 rfl ?_
  intro T121 P121
  refine W.g_iload (pc1 := 20) P121.q d6_18 rfl rfl ?_
  refine P121.ldI (pc1 := 21) (v := (.int (1 : Int32))) Vd (by decide) (by decide) rfl d6_20 rfl ?_
  refine W.g_dup2 (pc1 := 22) P121.q d6_21 rfl rfl rfl ?_
  refine P121.ldD (pc1 := 23) (v := (.double b1)) Vz (by decide) (by decide) rfl d6_22 rfl ?_
  refine W.g_dloadN (pc1 := 24) P121.q d6_23 rfl rfl ?_
  refine W.g_aloadN (pc1 := 25) P121.q d6_24 rfl rfl rfl ?_
  refine P121.getF (host := "") (pc1 := 28) (Or.inl (wd hw (k := 24) rfl)) Via.refl Fv d6_25 rfl ?_
  intro T122 P122
  refine W.g_iload (pc1 := 30) P122.q d6_28 rfl rfl ?_
  refine P122.ldF (pc1 := 31) (v := (.float f0)) Vv (by decide) (by decide) rfl d6_30 rfl ?_
  refine W.g_f2d (pc1 := 32) P122.q d6_31 hf0 rfl ?_
  refine W.g_dmul (pc1 := 33) P122.q d6_32 hm0 rfl ?_
  refine W.g_dadd (pc1 := 34) P122.q d6_33 ha0 rfl ?_
  refine P122.stD (pc1 := 35) (i := 1) Vz (by decide) (by decide) (Nat.le_of_ble_eq_true rfl) rfl (Or.inl (List.mem_singleton.mpr rfl)) (Safe.arv P122.al Vz (by decide)) d6_34 rfl ?_
  intro T123 h123 P123 W123 V123
  have Fd123 := Fd.other W123 (Or.inl hx)
  have Fv123 := Fv.other W123 (Or.inl hx)
  have Vd123 := Vd.other W123 hd
  have Vv123 := Vv.other W123 hv
  refine W.g_iinc (pc1 := 38) (ls2 := #[.val (.ref x), .val (.ref tz), .val (.double ff), .second, .val (.int ((0 : Int32) + Int32.ofInt 1))]) P123.q d6_35 rfl rfl rfl ?_
  refine W.g_goto (pc1 := 3) P123.q d6_38 (by decide) rfl ?_
  refine W.g_iload (pc1 := 5) P123.q d6_3 rfl rfl ?_
  refine W.g_aloadN (pc1 := 6) P123.q d6_5 rfl rfl rfl ?_
  refine P123.getF (host := "") (pc1 := 9) (Or.inl (wd hw (k := 22) rfl)) Via.refl Fd123 d6_6 rfl ?_
  intro T124 P124
  refine P124.len (pc1 := 10) Vd123 d6_9 rfl ?_
  show W.Go p.tables e below _ (T124.setTop (mkF m 10 #[.val (.ref x), .val (.ref tz), .val (.double ff), .second, .val (.int (1 : Int32))] [(.int (1 : Int32)), (.int (1 : Int32))]))
  refine W.g_cmpY (pc1 := 41) P124.q d6_10 (by decide) rfl (by decide) ?_
  exact P124.retN hlk hret d6_41 (by decide) (by decide) ⟨rfl, P124.fr, P124.keep, V123⟩
def QA3 (Z : State) (tz : Addr) (kz : ClassId) (b0 b1 b2 b3 ff : UInt64) (f0 : UInt32) (f1 : UInt32) (h0 : Heap) (v : Option Value) (h : Heap) (L : List Loc) : Prop := v = none ∧ W.Frw [tz] h0.size L ∧ Keep h0 h [tz] ∧ Arv Z h tz kz .double 4 [.double (FP.dadd b0 (FP.dmul ff (FP.f2d f0))), .double (FP.dadd b1 (FP.dmul ff (FP.f2d f1))), .double b2, .double b3] (.double 0)
set_option maxRecDepth 65536 in
set_option maxHeartbeats 40000000 in
theorem c_add3 (l : Launch) (Z : State) (a0 : Array Value) (hw : ∀ d ∈ tables_1, d.before a0 Z = true) (x td tv tz : Addr) (kd kv kz : ClassId) (b0 b1 b2 b3 ff : UInt64) (f0 : UInt32) (hf0 : Jvm.Free.Fl.NoNaN64 (FP.f2d f0)) (hm0 : Jvm.Free.Fl.NoNaN64 (FP.dmul ff (FP.f2d f0))) (ha0 : Jvm.Free.Fl.NoNaN64 (FP.dadd b0 (FP.dmul ff (FP.f2d f0)))) (f1 : UInt32) (hf1 : Jvm.Free.Fl.NoNaN64 (FP.f2d f1)) (hm1 : Jvm.Free.Fl.NoNaN64 (FP.dmul ff (FP.f2d f1))) (ha1 : Jvm.Free.Fl.NoNaN64 (FP.dadd b1 (FP.dmul ff (FP.f2d f1)))) (h0 : Heap) (E0 : Exa Z h0 x "com/example/intent_search/intentsearch/rank/CategoryVector") (Fd : Fld Z h0 x "com/example/intent_search/intentsearch/rank/CategoryVector" "dimensions" "[I" (.ref td)) (Fv : Fld Z h0 x "com/example/intent_search/intentsearch/rank/CategoryVector" "values" "[F" (.ref tv)) (Vd : Arv Z h0 td kd .int 2 [.int 0, .int 1] (.int 0)) (Vv : Arv Z h0 tv kv .float 2 [.float f0, .float f1] (.float 0)) (Vz : Arv Z h0 tz kz .double 4 [.double b0, .double b1, .double b2, .double b3] (.double 0)) (hd : td ≠ tz) (hv : tv ≠ tz) (hx : x ≠ tz) : W.MetN l Z (⟨"com/example/intent_search/intentsearch/rank/CategoryVector", "addTo", "([DD)V"⟩ : MethodName) prog_31_method_4_code 5 ((Option.none : Option Jvm.ClassFile.FieldType)) [] ({ frames := 0, cells := 0, slots := 0, locals := 0 } : Room) #[.ref x, .ref tz, .double ff]  h0 (QA3 Z tz kz b0 b1 b2 b3 ff f0 f1 h0) := by
  refine W.MetN.mk (ls0 := #[.val (.ref x), .val (.ref tz), .val (.double ff), .second, .unset]) [tz] (plainFor_of_name pn_com_example_intent_search_intentsearch_rank_CategoryVector) (fun m => by first | (simp [entryFrame, mkF, argsToLocals, Value.category]; done) | rfl) ?_
  intro p e s m below meth c s₁ hml hret hnm hlk P0
  show W.Go p.tables e below _ (s₁.setTop (mkF m 0 #[.val (.ref x), .val (.ref tz), .val (.double ff), .second, .unset] []))
  refine W.g_iconst (pc1 := 1) (v := (0 : Int32)) P0.q d6_0 (by decide) rfl ?_
  refine W.g_istore (pc1 := 3) (ls2 := #[.val (.ref x), .val (.ref tz), .val (.double ff), .second, .val (.int (0 : Int32))]) P0.q d6_1 rfl rfl ?_
  refine W.g_iload (pc1 := 5) P0.q d6_3 rfl rfl ?_
  refine W.g_aloadN (pc1 := 6) P0.q d6_5 rfl rfl rfl ?_
  refine P0.getF (host := "") (pc1 := 9) (Or.inl (wd hw (k := 22) rfl)) Via.refl Fd d6_6 rfl ?_
  intro T125 P125
  refine P125.len (pc1 := 10) Vd d6_9 rfl ?_
  refine W.g_cmpN (pc2 := 13) P125.q d6_10 rfl (by decide) ?_
  refine W.g_aloadN (pc1 := 14) P125.q d6_13 rfl rfl rfl ?_
  refine W.g_aloadN (pc1 := 15) P125.q d6_14 rfl rfl rfl ?_
  refine P125.getF (host := "") (pc1 := 18) (Or.inl (wd hw (k := 22) rfl)) Via.refl Fd d6_15 rfl ?_
  intro T126 P126
  refine W.g_iload (pc1 := 20) P126.q d6_18 rfl rfl ?_
  refine P126.ldI (pc1 := 21) (v := (.int (0 : Int32))) Vd (by decide) (by decide) rfl d6_20 rfl ?_
  refine W.g_dup2 (pc1 := 22) P126.q d6_21 rfl rfl rfl ?_
  refine P126.ldD (pc1 := 23) (v := (.double b0)) Vz (by decide) (by decide) rfl d6_22 rfl ?_
  refine W.g_dloadN (pc1 := 24) P126.q d6_23 rfl rfl ?_
  refine W.g_aloadN (pc1 := 25) P126.q d6_24 rfl rfl rfl ?_
  refine P126.getF (host := "") (pc1 := 28) (Or.inl (wd hw (k := 24) rfl)) Via.refl Fv d6_25 rfl ?_
  intro T127 P127
  refine W.g_iload (pc1 := 30) P127.q d6_28 rfl rfl ?_
  refine P127.ldF (pc1 := 31) (v := (.float f0)) Vv (by decide) (by decide) rfl d6_30 rfl ?_
  refine W.g_f2d (pc1 := 32) P127.q d6_31 hf0 rfl ?_
  refine W.g_dmul (pc1 := 33) P127.q d6_32 hm0 rfl ?_
  refine W.g_dadd (pc1 := 34) P127.q d6_33 ha0 rfl ?_
  refine P127.stD (pc1 := 35) (i := 0) Vz (by decide) (by decide) (Nat.le_of_ble_eq_true rfl) rfl (Or.inl (List.mem_singleton.mpr rfl)) (Safe.arv P127.al Vz (by decide)) d6_34 rfl ?_
  intro T128 h128 P128 W128 V128
  have Fd128 := Fd.other W128 (Or.inl hx)
  have Fv128 := Fv.other W128 (Or.inl hx)
  have Vd128 := Vd.other W128 hd
  have Vv128 := Vv.other W128 hv
  refine W.g_iinc (pc1 := 38) (ls2 := #[.val (.ref x), .val (.ref tz), .val (.double ff), .second, .val (.int ((0 : Int32) + Int32.ofInt 1))]) P128.q d6_35 rfl rfl rfl ?_
  refine W.g_goto (pc1 := 3) P128.q d6_38 (by decide) rfl ?_
  refine W.g_iload (pc1 := 5) P128.q d6_3 rfl rfl ?_
  refine W.g_aloadN (pc1 := 6) P128.q d6_5 rfl rfl rfl ?_
  refine P128.getF (host := "") (pc1 := 9) (Or.inl (wd hw (k := 22) rfl)) Via.refl Fd128 d6_6 rfl ?_
  intro T129 P129
  refine P129.len (pc1 := 10) Vd128 d6_9 rfl ?_
  show W.Go p.tables e below _ (T129.setTop (mkF m 10 #[.val (.ref x), .val (.ref tz), .val (.double ff), .second, .val (.int (1 : Int32))] [(.int (2 : Int32)), (.int (1 : Int32))]))
  refine W.g_cmpN (pc2 := 13) P129.q d6_10 rfl (by decide) ?_
  refine W.g_aloadN (pc1 := 14) P129.q d6_13 rfl rfl rfl ?_
  refine W.g_aloadN (pc1 := 15) P129.q d6_14 rfl rfl rfl ?_
  refine P129.getF (host := "") (pc1 := 18) (Or.inl (wd hw (k := 22) rfl)) Via.refl Fd128 d6_15 rfl ?_
  intro T130 P130
  refine W.g_iload (pc1 := 20) P130.q d6_18 rfl rfl ?_
  refine P130.ldI (pc1 := 21) (v := (.int (1 : Int32))) Vd128 (by decide) (by decide) rfl d6_20 rfl ?_
  refine W.g_dup2 (pc1 := 22) P130.q d6_21 rfl rfl rfl ?_
  refine P130.ldD (pc1 := 23) (v := (.double b1)) V128 (by decide) (by decide) rfl d6_22 rfl ?_
  refine W.g_dloadN (pc1 := 24) P130.q d6_23 rfl rfl ?_
  refine W.g_aloadN (pc1 := 25) P130.q d6_24 rfl rfl rfl ?_
  refine P130.getF (host := "") (pc1 := 28) (Or.inl (wd hw (k := 24) rfl)) Via.refl Fv128 d6_25 rfl ?_
  intro T131 P131
  refine W.g_iload (pc1 := 30) P131.q d6_28 rfl rfl ?_
  refine P131.ldF (pc1 := 31) (v := (.float f1)) Vv128 (by decide) (by decide) rfl d6_30 rfl ?_
  refine W.g_f2d (pc1 := 32) P131.q d6_31 hf1 rfl ?_
  refine W.g_dmul (pc1 := 33) P131.q d6_32 hm1 rfl ?_
  refine W.g_dadd (pc1 := 34) P131.q d6_33 ha1 rfl ?_
  refine P131.stD (pc1 := 35) (i := 1) V128 (by decide) (by decide) (Nat.le_of_ble_eq_true rfl) rfl (Or.inl (List.mem_singleton.mpr rfl)) (Safe.arv P131.al V128 (by decide)) d6_34 rfl ?_
  intro T132 h132 P132 W132 V132
  have Fd132 := Fd128.other W132 (Or.inl hx)
  have Fv132 := Fv128.other W132 (Or.inl hx)
  have Vd132 := Vd128.other W132 hd
  have Vv132 := Vv128.other W132 hv
  refine W.g_iinc (pc1 := 38) (ls2 := #[.val (.ref x), .val (.ref tz), .val (.double ff), .second, .val (.int ((1 : Int32) + Int32.ofInt 1))]) P132.q d6_35 rfl rfl rfl ?_
  refine W.g_goto (pc1 := 3) P132.q d6_38 (by decide) rfl ?_
  refine W.g_iload (pc1 := 5) P132.q d6_3 rfl rfl ?_
  refine W.g_aloadN (pc1 := 6) P132.q d6_5 rfl rfl rfl ?_
  refine P132.getF (host := "") (pc1 := 9) (Or.inl (wd hw (k := 22) rfl)) Via.refl Fd132 d6_6 rfl ?_
  intro T133 P133
  refine P133.len (pc1 := 10) Vd132 d6_9 rfl ?_
  show W.Go p.tables e below _ (T133.setTop (mkF m 10 #[.val (.ref x), .val (.ref tz), .val (.double ff), .second, .val (.int (2 : Int32))] [(.int (2 : Int32)), (.int (2 : Int32))]))
  refine W.g_cmpY (pc1 := 41) P133.q d6_10 (by decide) rfl (by decide) ?_
  exact P133.retN hlk hret d6_41 (by decide) (by decide) ⟨rfl, P133.fr, P133.keep, V132⟩
def QA4 (Z : State) (tz : Addr) (kz : ClassId) (b0 b1 b2 b3 ff : UInt64) (f0 : UInt32) (h0 : Heap) (v : Option Value) (h : Heap) (L : List Loc) : Prop := v = none ∧ W.Frw [tz] h0.size L ∧ Keep h0 h [tz] ∧ Arv Z h tz kz .double 4 [.double b0, .double b1, .double (FP.dadd b2 (FP.dmul ff (FP.f2d f0))), .double b3] (.double 0)
set_option maxRecDepth 65536 in
set_option maxHeartbeats 40000000 in
theorem c_add4 (l : Launch) (Z : State) (a0 : Array Value) (hw : ∀ d ∈ tables_1, d.before a0 Z = true) (x td tv tz : Addr) (kd kv kz : ClassId) (b0 b1 b2 b3 ff : UInt64) (f0 : UInt32) (hf0 : Jvm.Free.Fl.NoNaN64 (FP.f2d f0)) (hm0 : Jvm.Free.Fl.NoNaN64 (FP.dmul ff (FP.f2d f0))) (ha0 : Jvm.Free.Fl.NoNaN64 (FP.dadd b2 (FP.dmul ff (FP.f2d f0)))) (h0 : Heap) (E0 : Exa Z h0 x "com/example/intent_search/intentsearch/rank/CategoryVector") (Fd : Fld Z h0 x "com/example/intent_search/intentsearch/rank/CategoryVector" "dimensions" "[I" (.ref td)) (Fv : Fld Z h0 x "com/example/intent_search/intentsearch/rank/CategoryVector" "values" "[F" (.ref tv)) (Vd : Arv Z h0 td kd .int 1 [.int 2] (.int 0)) (Vv : Arv Z h0 tv kv .float 1 [.float f0] (.float 0)) (Vz : Arv Z h0 tz kz .double 4 [.double b0, .double b1, .double b2, .double b3] (.double 0)) (hd : td ≠ tz) (hv : tv ≠ tz) (hx : x ≠ tz) : W.MetN l Z (⟨"com/example/intent_search/intentsearch/rank/CategoryVector", "addTo", "([DD)V"⟩ : MethodName) prog_31_method_4_code 5 ((Option.none : Option Jvm.ClassFile.FieldType)) [] ({ frames := 0, cells := 0, slots := 0, locals := 0 } : Room) #[.ref x, .ref tz, .double ff]  h0 (QA4 Z tz kz b0 b1 b2 b3 ff f0 h0) := by
  refine W.MetN.mk (ls0 := #[.val (.ref x), .val (.ref tz), .val (.double ff), .second, .unset]) [tz] (plainFor_of_name pn_com_example_intent_search_intentsearch_rank_CategoryVector) (fun m => by first | (simp [entryFrame, mkF, argsToLocals, Value.category]; done) | rfl) ?_
  intro p e s m below meth c s₁ hml hret hnm hlk P0
  show W.Go p.tables e below _ (s₁.setTop (mkF m 0 #[.val (.ref x), .val (.ref tz), .val (.double ff), .second, .unset] []))
  refine W.g_iconst (pc1 := 1) (v := (0 : Int32)) P0.q d6_0 (by decide) rfl ?_
  refine W.g_istore (pc1 := 3) (ls2 := #[.val (.ref x), .val (.ref tz), .val (.double ff), .second, .val (.int (0 : Int32))]) P0.q d6_1 rfl rfl ?_
  refine W.g_iload (pc1 := 5) P0.q d6_3 rfl rfl ?_
  refine W.g_aloadN (pc1 := 6) P0.q d6_5 rfl rfl rfl ?_
  refine P0.getF (host := "") (pc1 := 9) (Or.inl (wd hw (k := 22) rfl)) Via.refl Fd d6_6 rfl ?_
  intro T134 P134
  refine P134.len (pc1 := 10) Vd d6_9 rfl ?_
  refine W.g_cmpN (pc2 := 13) P134.q d6_10 rfl (by decide) ?_
  refine W.g_aloadN (pc1 := 14) P134.q d6_13 rfl rfl rfl ?_
  refine W.g_aloadN (pc1 := 15) P134.q d6_14 rfl rfl rfl ?_
  refine P134.getF (host := "") (pc1 := 18) (Or.inl (wd hw (k := 22) rfl)) Via.refl Fd d6_15 rfl ?_
  intro T135 P135
  refine W.g_iload (pc1 := 20) P135.q d6_18 rfl rfl ?_
  refine P135.ldI (pc1 := 21) (v := (.int (2 : Int32))) Vd (by decide) (by decide) rfl d6_20 rfl ?_
  refine W.g_dup2 (pc1 := 22) P135.q d6_21 rfl rfl rfl ?_
  refine P135.ldD (pc1 := 23) (v := (.double b2)) Vz (by decide) (by decide) rfl d6_22 rfl ?_
  refine W.g_dloadN (pc1 := 24) P135.q d6_23 rfl rfl ?_
  refine W.g_aloadN (pc1 := 25) P135.q d6_24 rfl rfl rfl ?_
  refine P135.getF (host := "") (pc1 := 28) (Or.inl (wd hw (k := 24) rfl)) Via.refl Fv d6_25 rfl ?_
  intro T136 P136
  refine W.g_iload (pc1 := 30) P136.q d6_28 rfl rfl ?_
  refine P136.ldF (pc1 := 31) (v := (.float f0)) Vv (by decide) (by decide) rfl d6_30 rfl ?_
  refine W.g_f2d (pc1 := 32) P136.q d6_31 hf0 rfl ?_
  refine W.g_dmul (pc1 := 33) P136.q d6_32 hm0 rfl ?_
  refine W.g_dadd (pc1 := 34) P136.q d6_33 ha0 rfl ?_
  refine P136.stD (pc1 := 35) (i := 2) Vz (by decide) (by decide) (Nat.le_of_ble_eq_true rfl) rfl (Or.inl (List.mem_singleton.mpr rfl)) (Safe.arv P136.al Vz (by decide)) d6_34 rfl ?_
  intro T137 h137 P137 W137 V137
  have Fd137 := Fd.other W137 (Or.inl hx)
  have Fv137 := Fv.other W137 (Or.inl hx)
  have Vd137 := Vd.other W137 hd
  have Vv137 := Vv.other W137 hv
  refine W.g_iinc (pc1 := 38) (ls2 := #[.val (.ref x), .val (.ref tz), .val (.double ff), .second, .val (.int ((0 : Int32) + Int32.ofInt 1))]) P137.q d6_35 rfl rfl rfl ?_
  refine W.g_goto (pc1 := 3) P137.q d6_38 (by decide) rfl ?_
  refine W.g_iload (pc1 := 5) P137.q d6_3 rfl rfl ?_
  refine W.g_aloadN (pc1 := 6) P137.q d6_5 rfl rfl rfl ?_
  refine P137.getF (host := "") (pc1 := 9) (Or.inl (wd hw (k := 22) rfl)) Via.refl Fd137 d6_6 rfl ?_
  intro T138 P138
  refine P138.len (pc1 := 10) Vd137 d6_9 rfl ?_
  show W.Go p.tables e below _ (T138.setTop (mkF m 10 #[.val (.ref x), .val (.ref tz), .val (.double ff), .second, .val (.int (1 : Int32))] [(.int (1 : Int32)), (.int (1 : Int32))]))
  refine W.g_cmpY (pc1 := 41) P138.q d6_10 (by decide) rfl (by decide) ?_
  exact P138.retN hlk hret d6_41 (by decide) (by decide) ⟨rfl, P138.fr, P138.keep, V137⟩
def QA5 (Z : State) (tz : Addr) (kz : ClassId) (b0 b1 b2 b3 ff : UInt64) (f0 : UInt32) (f1 : UInt32) (h0 : Heap) (v : Option Value) (h : Heap) (L : List Loc) : Prop := v = none ∧ W.Frw [tz] h0.size L ∧ Keep h0 h [tz] ∧ Arv Z h tz kz .double 4 [.double (FP.dadd b0 (FP.dmul ff (FP.f2d f0))), .double b1, .double (FP.dadd b2 (FP.dmul ff (FP.f2d f1))), .double b3] (.double 0)
set_option maxRecDepth 65536 in
set_option maxHeartbeats 40000000 in
theorem c_add5 (l : Launch) (Z : State) (a0 : Array Value) (hw : ∀ d ∈ tables_1, d.before a0 Z = true) (x td tv tz : Addr) (kd kv kz : ClassId) (b0 b1 b2 b3 ff : UInt64) (f0 : UInt32) (hf0 : Jvm.Free.Fl.NoNaN64 (FP.f2d f0)) (hm0 : Jvm.Free.Fl.NoNaN64 (FP.dmul ff (FP.f2d f0))) (ha0 : Jvm.Free.Fl.NoNaN64 (FP.dadd b0 (FP.dmul ff (FP.f2d f0)))) (f1 : UInt32) (hf1 : Jvm.Free.Fl.NoNaN64 (FP.f2d f1)) (hm1 : Jvm.Free.Fl.NoNaN64 (FP.dmul ff (FP.f2d f1))) (ha1 : Jvm.Free.Fl.NoNaN64 (FP.dadd b2 (FP.dmul ff (FP.f2d f1)))) (h0 : Heap) (E0 : Exa Z h0 x "com/example/intent_search/intentsearch/rank/CategoryVector") (Fd : Fld Z h0 x "com/example/intent_search/intentsearch/rank/CategoryVector" "dimensions" "[I" (.ref td)) (Fv : Fld Z h0 x "com/example/intent_search/intentsearch/rank/CategoryVector" "values" "[F" (.ref tv)) (Vd : Arv Z h0 td kd .int 2 [.int 0, .int 2] (.int 0)) (Vv : Arv Z h0 tv kv .float 2 [.float f0, .float f1] (.float 0)) (Vz : Arv Z h0 tz kz .double 4 [.double b0, .double b1, .double b2, .double b3] (.double 0)) (hd : td ≠ tz) (hv : tv ≠ tz) (hx : x ≠ tz) : W.MetN l Z (⟨"com/example/intent_search/intentsearch/rank/CategoryVector", "addTo", "([DD)V"⟩ : MethodName) prog_31_method_4_code 5 ((Option.none : Option Jvm.ClassFile.FieldType)) [] ({ frames := 0, cells := 0, slots := 0, locals := 0 } : Room) #[.ref x, .ref tz, .double ff]  h0 (QA5 Z tz kz b0 b1 b2 b3 ff f0 f1 h0) := by
  refine W.MetN.mk (ls0 := #[.val (.ref x), .val (.ref tz), .val (.double ff), .second, .unset]) [tz] (plainFor_of_name pn_com_example_intent_search_intentsearch_rank_CategoryVector) (fun m => by first | (simp [entryFrame, mkF, argsToLocals, Value.category]; done) | rfl) ?_
  intro p e s m below meth c s₁ hml hret hnm hlk P0
  show W.Go p.tables e below _ (s₁.setTop (mkF m 0 #[.val (.ref x), .val (.ref tz), .val (.double ff), .second, .unset] []))
  refine W.g_iconst (pc1 := 1) (v := (0 : Int32)) P0.q d6_0 (by decide) rfl ?_
  refine W.g_istore (pc1 := 3) (ls2 := #[.val (.ref x), .val (.ref tz), .val (.double ff), .second, .val (.int (0 : Int32))]) P0.q d6_1 rfl rfl ?_
  refine W.g_iload (pc1 := 5) P0.q d6_3 rfl rfl ?_
  refine W.g_aloadN (pc1 := 6) P0.q d6_5 rfl rfl rfl ?_
  refine P0.getF (host := "") (pc1 := 9) (Or.inl (wd hw (k := 22) rfl)) Via.refl Fd d6_6 rfl ?_
  intro T139 P139
  refine P139.len (pc1 := 10) Vd d6_9 rfl ?_
  refine W.g_cmpN (pc2 := 13) P139.q d6_10 rfl (by decide) ?_
  refine W.g_aloadN (pc1 := 14) P139.q d6_13 rfl rfl rfl ?_
  refine W.g_aloadN (pc1 := 15) P139.q d6_14 rfl rfl rfl ?_
  refine P139.getF (host := "") (pc1 := 18) (Or.inl (wd hw (k := 22) rfl)) Via.refl Fd d6_15 rfl ?_
  intro T140 P140
  refine W.g_iload (pc1 := 20) P140.q d6_18 rfl rfl ?_
  refine P140.ldI (pc1 := 21) (v := (.int (0 : Int32))) Vd (by decide) (by decide) rfl d6_20 rfl ?_
  refine W.g_dup2 (pc1 := 22) P140.q d6_21 rfl rfl rfl ?_
  refine P140.ldD (pc1 := 23) (v := (.double b0)) Vz (by decide) (by decide) rfl d6_22 rfl ?_
  refine W.g_dloadN (pc1 := 24) P140.q d6_23 rfl rfl ?_
  refine W.g_aloadN (pc1 := 25) P140.q d6_24 rfl rfl rfl ?_
  refine P140.getF (host := "") (pc1 := 28) (Or.inl (wd hw (k := 24) rfl)) Via.refl Fv d6_25 rfl ?_
  intro T141 P141
  refine W.g_iload (pc1 := 30) P141.q d6_28 rfl rfl ?_
  refine P141.ldF (pc1 := 31) (v := (.float f0)) Vv (by decide) (by decide) rfl d6_30 rfl ?_
  refine W.g_f2d (pc1 := 32) P141.q d6_31 hf0 rfl ?_
  refine W.g_dmul (pc1 := 33) P141.q d6_32 hm0 rfl ?_
  refine W.g_dadd (pc1 := 34) P141.q d6_33 ha0 rfl ?_
  refine P141.stD (pc1 := 35) (i := 0) Vz (by decide) (by decide) (Nat.le_of_ble_eq_true rfl) rfl (Or.inl (List.mem_singleton.mpr rfl)) (Safe.arv P141.al Vz (by decide)) d6_34 rfl ?_
  intro T142 h142 P142 W142 V142
  have Fd142 := Fd.other W142 (Or.inl hx)
  have Fv142 := Fv.other W142 (Or.inl hx)
  have Vd142 := Vd.other W142 hd
  have Vv142 := Vv.other W142 hv
  refine W.g_iinc (pc1 := 38) (ls2 := #[.val (.ref x), .val (.ref tz), .val (.double ff), .second, .val (.int ((0 : Int32) + Int32.ofInt 1))]) P142.q d6_35 rfl rfl rfl ?_
  refine W.g_goto (pc1 := 3) P142.q d6_38 (by decide) rfl ?_
  refine W.g_iload (pc1 := 5) P142.q d6_3 rfl rfl ?_
  refine W.g_aloadN (pc1 := 6) P142.q d6_5 rfl rfl rfl ?_
  refine P142.getF (host := "") (pc1 := 9) (Or.inl (wd hw (k := 22) rfl)) Via.refl Fd142 d6_6 rfl ?_
  intro T143 P143
  refine P143.len (pc1 := 10) Vd142 d6_9 rfl ?_
  show W.Go p.tables e below _ (T143.setTop (mkF m 10 #[.val (.ref x), .val (.ref tz), .val (.double ff), .second, .val (.int (1 : Int32))] [(.int (2 : Int32)), (.int (1 : Int32))]))
  refine W.g_cmpN (pc2 := 13) P143.q d6_10 rfl (by decide) ?_
  refine W.g_aloadN (pc1 := 14) P143.q d6_13 rfl rfl rfl ?_
  refine W.g_aloadN (pc1 := 15) P143.q d6_14 rfl rfl rfl ?_
  refine P143.getF (host := "") (pc1 := 18) (Or.inl (wd hw (k := 22) rfl)) Via.refl Fd142 d6_15 rfl ?_
  intro T144 P144
  refine W.g_iload (pc1 := 20) P144.q d6_18 rfl rfl ?_
  refine P144.ldI (pc1 := 21) (v := (.int (2 : Int32))) Vd142 (by decide) (by decide) rfl d6_20 rfl ?_
  refine W.g_dup2 (pc1 := 22) P144.q d6_21 rfl rfl rfl ?_
  refine P144.ldD (pc1 := 23) (v := (.double b2)) V142 (by decide) (by decide) rfl d6_22 rfl ?_
  refine W.g_dloadN (pc1 := 24) P144.q d6_23 rfl rfl ?_
  refine W.g_aloadN (pc1 := 25) P144.q d6_24 rfl rfl rfl ?_
  refine P144.getF (host := "") (pc1 := 28) (Or.inl (wd hw (k := 24) rfl)) Via.refl Fv142 d6_25 rfl ?_
  intro T145 P145
  refine W.g_iload (pc1 := 30) P145.q d6_28 rfl rfl ?_
  refine P145.ldF (pc1 := 31) (v := (.float f1)) Vv142 (by decide) (by decide) rfl d6_30 rfl ?_
  refine W.g_f2d (pc1 := 32) P145.q d6_31 hf1 rfl ?_
  refine W.g_dmul (pc1 := 33) P145.q d6_32 hm1 rfl ?_
  refine W.g_dadd (pc1 := 34) P145.q d6_33 ha1 rfl ?_
  refine P145.stD (pc1 := 35) (i := 2) V142 (by decide) (by decide) (Nat.le_of_ble_eq_true rfl) rfl (Or.inl (List.mem_singleton.mpr rfl)) (Safe.arv P145.al V142 (by decide)) d6_34 rfl ?_
  intro T146 h146 P146 W146 V146
  have Fd146 := Fd142.other W146 (Or.inl hx)
  have Fv146 := Fv142.other W146 (Or.inl hx)
  have Vd146 := Vd142.other W146 hd
  have Vv146 := Vv142.other W146 hv
  refine W.g_iinc (pc1 := 38) (ls2 := #[.val (.ref x), .val (.ref tz), .val (.double ff), .second, .val (.int ((1 : Int32) + Int32.ofInt 1))]) P146.q d6_35 rfl rfl rfl ?_
  refine W.g_goto (pc1 := 3) P146.q d6_38 (by decide) rfl ?_
  refine W.g_iload (pc1 := 5) P146.q d6_3 rfl rfl ?_
  refine W.g_aloadN (pc1 := 6) P146.q d6_5 rfl rfl rfl ?_
  refine P146.getF (host := "") (pc1 := 9) (Or.inl (wd hw (k := 22) rfl)) Via.refl Fd146 d6_6 rfl ?_
  intro T147 P147
  refine P147.len (pc1 := 10) Vd146 d6_9 rfl ?_
  show W.Go p.tables e below _ (T147.setTop (mkF m 10 #[.val (.ref x), .val (.ref tz), .val (.double ff), .second, .val (.int (2 : Int32))] [(.int (2 : Int32)), (.int (2 : Int32))]))
  refine W.g_cmpY (pc1 := 41) P147.q d6_10 (by decide) rfl (by decide) ?_
  exact P147.retN hlk hret d6_41 (by decide) (by decide) ⟨rfl, P147.fr, P147.keep, V146⟩
def QA6 (Z : State) (tz : Addr) (kz : ClassId) (b0 b1 b2 b3 ff : UInt64) (f0 : UInt32) (f1 : UInt32) (h0 : Heap) (v : Option Value) (h : Heap) (L : List Loc) : Prop := v = none ∧ W.Frw [tz] h0.size L ∧ Keep h0 h [tz] ∧ Arv Z h tz kz .double 4 [.double b0, .double (FP.dadd b1 (FP.dmul ff (FP.f2d f0))), .double (FP.dadd b2 (FP.dmul ff (FP.f2d f1))), .double b3] (.double 0)
set_option maxRecDepth 65536 in
set_option maxHeartbeats 40000000 in
theorem c_add6 (l : Launch) (Z : State) (a0 : Array Value) (hw : ∀ d ∈ tables_1, d.before a0 Z = true) (x td tv tz : Addr) (kd kv kz : ClassId) (b0 b1 b2 b3 ff : UInt64) (f0 : UInt32) (hf0 : Jvm.Free.Fl.NoNaN64 (FP.f2d f0)) (hm0 : Jvm.Free.Fl.NoNaN64 (FP.dmul ff (FP.f2d f0))) (ha0 : Jvm.Free.Fl.NoNaN64 (FP.dadd b1 (FP.dmul ff (FP.f2d f0)))) (f1 : UInt32) (hf1 : Jvm.Free.Fl.NoNaN64 (FP.f2d f1)) (hm1 : Jvm.Free.Fl.NoNaN64 (FP.dmul ff (FP.f2d f1))) (ha1 : Jvm.Free.Fl.NoNaN64 (FP.dadd b2 (FP.dmul ff (FP.f2d f1)))) (h0 : Heap) (E0 : Exa Z h0 x "com/example/intent_search/intentsearch/rank/CategoryVector") (Fd : Fld Z h0 x "com/example/intent_search/intentsearch/rank/CategoryVector" "dimensions" "[I" (.ref td)) (Fv : Fld Z h0 x "com/example/intent_search/intentsearch/rank/CategoryVector" "values" "[F" (.ref tv)) (Vd : Arv Z h0 td kd .int 2 [.int 1, .int 2] (.int 0)) (Vv : Arv Z h0 tv kv .float 2 [.float f0, .float f1] (.float 0)) (Vz : Arv Z h0 tz kz .double 4 [.double b0, .double b1, .double b2, .double b3] (.double 0)) (hd : td ≠ tz) (hv : tv ≠ tz) (hx : x ≠ tz) : W.MetN l Z (⟨"com/example/intent_search/intentsearch/rank/CategoryVector", "addTo", "([DD)V"⟩ : MethodName) prog_31_method_4_code 5 ((Option.none : Option Jvm.ClassFile.FieldType)) [] ({ frames := 0, cells := 0, slots := 0, locals := 0 } : Room) #[.ref x, .ref tz, .double ff]  h0 (QA6 Z tz kz b0 b1 b2 b3 ff f0 f1 h0) := by
  refine W.MetN.mk (ls0 := #[.val (.ref x), .val (.ref tz), .val (.double ff), .second, .unset]) [tz] (plainFor_of_name pn_com_example_intent_search_intentsearch_rank_CategoryVector) (fun m => by first | (simp [entryFrame, mkF, argsToLocals, Value.category]; done) | rfl) ?_
  intro p e s m below meth c s₁ hml hret hnm hlk P0
  show W.Go p.tables e below _ (s₁.setTop (mkF m 0 #[.val (.ref x), .val (.ref tz), .val (.double ff), .second, .unset] []))
  refine W.g_iconst (pc1 := 1) (v := (0 : Int32)) P0.q d6_0 (by decide) rfl ?_
  refine W.g_istore (pc1 := 3) (ls2 := #[.val (.ref x), .val (.ref tz), .val (.double ff), .second, .val (.int (0 : Int32))]) P0.q d6_1 rfl rfl ?_
  refine W.g_iload (pc1 := 5) P0.q d6_3 rfl rfl ?_
  refine W.g_aloadN (pc1 := 6) P0.q d6_5 rfl rfl rfl ?_
  refine P0.getF (host := "") (pc1 := 9) (Or.inl (wd hw (k := 22) rfl)) Via.refl Fd d6_6 rfl ?_
  intro T148 P148
  refine P148.len (pc1 := 10) Vd d6_9 rfl ?_
  refine W.g_cmpN (pc2 := 13) P148.q d6_10 rfl (by decide) ?_
  refine W.g_aloadN (pc1 := 14) P148.q d6_13 rfl rfl rfl ?_
  refine W.g_aloadN (pc1 := 15) P148.q d6_14 rfl rfl rfl ?_
  refine P148.getF (host := "") (pc1 := 18) (Or.inl (wd hw (k := 22) rfl)) Via.refl Fd d6_15 rfl ?_
  intro T149 P149
  refine W.g_iload (pc1 := 20) P149.q d6_18 rfl rfl ?_
  refine P149.ldI (pc1 := 21) (v := (.int (1 : Int32))) Vd (by decide) (by decide) rfl d6_20 rfl ?_
  refine W.g_dup2 (pc1 := 22) P149.q d6_21 rfl rfl rfl ?_
  refine P149.ldD (pc1 := 23) (v := (.double b1)) Vz (by decide) (by decide) rfl d6_22 rfl ?_
  refine W.g_dloadN (pc1 := 24) P149.q d6_23 rfl rfl ?_
  refine W.g_aloadN (pc1 := 25) P149.q d6_24 rfl rfl rfl ?_
  refine P149.getF (host := "") (pc1 := 28) (Or.inl (wd hw (k := 24) rfl)) Via.refl Fv d6_25 rfl ?_
  intro T150 P150
  refine W.g_iload (pc1 := 30) P150.q d6_28 rfl rfl ?_
  refine P150.ldF (pc1 := 31) (v := (.float f0)) Vv (by decide) (by decide) rfl d6_30 rfl ?_
  refine W.g_f2d (pc1 := 32) P150.q d6_31 hf0 rfl ?_
  refine W.g_dmul (pc1 := 33) P150.q d6_32 hm0 rfl ?_
  refine W.g_dadd (pc1 := 34) P150.q d6_33 ha0 rfl ?_
  refine P150.stD (pc1 := 35) (i := 1) Vz (by decide) (by decide) (Nat.le_of_ble_eq_true rfl) rfl (Or.inl (List.mem_singleton.mpr rfl)) (Safe.arv P150.al Vz (by decide)) d6_34 rfl ?_
  intro T151 h151 P151 W151 V151
  have Fd151 := Fd.other W151 (Or.inl hx)
  have Fv151 := Fv.other W151 (Or.inl hx)
  have Vd151 := Vd.other W151 hd
  have Vv151 := Vv.other W151 hv
  refine W.g_iinc (pc1 := 38) (ls2 := #[.val (.ref x), .val (.ref tz), .val (.double ff), .second, .val (.int ((0 : Int32) + Int32.ofInt 1))]) P151.q d6_35 rfl rfl rfl ?_
  refine W.g_goto (pc1 := 3) P151.q d6_38 (by decide) rfl ?_
  refine W.g_iload (pc1 := 5) P151.q d6_3 rfl rfl ?_
  refine W.g_aloadN (pc1 := 6) P151.q d6_5 rfl rfl rfl ?_
  refine P151.getF (host := "") (pc1 := 9) (Or.inl (wd hw (k := 22) rfl)) Via.refl Fd151 d6_6 rfl ?_
  intro T152 P152
  refine P152.len (pc1 := 10) Vd151 d6_9 rfl ?_
  show W.Go p.tables e below _ (T152.setTop (mkF m 10 #[.val (.ref x), .val (.ref tz), .val (.double ff), .second, .val (.int (1 : Int32))] [(.int (2 : Int32)), (.int (1 : Int32))]))
  refine W.g_cmpN (pc2 := 13) P152.q d6_10 rfl (by decide) ?_
  refine W.g_aloadN (pc1 := 14) P152.q d6_13 rfl rfl rfl ?_
  refine W.g_aloadN (pc1 := 15) P152.q d6_14 rfl rfl rfl ?_
  refine P152.getF (host := "") (pc1 := 18) (Or.inl (wd hw (k := 22) rfl)) Via.refl Fd151 d6_15 rfl ?_
  intro T153 P153
  refine W.g_iload (pc1 := 20) P153.q d6_18 rfl rfl ?_
  refine P153.ldI (pc1 := 21) (v := (.int (2 : Int32))) Vd151 (by decide) (by decide) rfl d6_20 rfl ?_
  refine W.g_dup2 (pc1 := 22) P153.q d6_21 rfl rfl rfl ?_
  refine P153.ldD (pc1 := 23) (v := (.double b2)) V151 (by decide) (by decide) rfl d6_22 rfl ?_
  refine W.g_dloadN (pc1 := 24) P153.q d6_23 rfl rfl ?_
  refine W.g_aloadN (pc1 := 25) P153.q d6_24 rfl rfl rfl ?_
  refine P153.getF (host := "") (pc1 := 28) (Or.inl (wd hw (k := 24) rfl)) Via.refl Fv151 d6_25 rfl ?_
  intro T154 P154
  refine W.g_iload (pc1 := 30) P154.q d6_28 rfl rfl ?_
  refine P154.ldF (pc1 := 31) (v := (.float f1)) Vv151 (by decide) (by decide) rfl d6_30 rfl ?_
  refine W.g_f2d (pc1 := 32) P154.q d6_31 hf1 rfl ?_
  refine W.g_dmul (pc1 := 33) P154.q d6_32 hm1 rfl ?_
  refine W.g_dadd (pc1 := 34) P154.q d6_33 ha1 rfl ?_
  refine P154.stD (pc1 := 35) (i := 2) V151 (by decide) (by decide) (Nat.le_of_ble_eq_true rfl) rfl (Or.inl (List.mem_singleton.mpr rfl)) (Safe.arv P154.al V151 (by decide)) d6_34 rfl ?_
  intro T155 h155 P155 W155 V155
  have Fd155 := Fd151.other W155 (Or.inl hx)
  have Fv155 := Fv151.other W155 (Or.inl hx)
  have Vd155 := Vd151.other W155 hd
  have Vv155 := Vv151.other W155 hv
  refine W.g_iinc (pc1 := 38) (ls2 := #[.val (.ref x), .val (.ref tz), .val (.double ff), .second, .val (.int ((1 : Int32) + Int32.ofInt 1))]) P155.q d6_35 rfl rfl rfl ?_
  refine W.g_goto (pc1 := 3) P155.q d6_38 (by decide) rfl ?_
  refine W.g_iload (pc1 := 5) P155.q d6_3 rfl rfl ?_
  refine W.g_aloadN (pc1 := 6) P155.q d6_5 rfl rfl rfl ?_
  refine P155.getF (host := "") (pc1 := 9) (Or.inl (wd hw (k := 22) rfl)) Via.refl Fd155 d6_6 rfl ?_
  intro T156 P156
  refine P156.len (pc1 := 10) Vd155 d6_9 rfl ?_
  show W.Go p.tables e below _ (T156.setTop (mkF m 10 #[.val (.ref x), .val (.ref tz), .val (.double ff), .second, .val (.int (2 : Int32))] [(.int (2 : Int32)), (.int (2 : Int32))]))
  refine W.g_cmpY (pc1 := 41) P156.q d6_10 (by decide) rfl (by decide) ?_
  exact P156.retN hlk hret d6_41 (by decide) (by decide) ⟨rfl, P156.fr, P156.keep, V155⟩
def QA7 (Z : State) (tz : Addr) (kz : ClassId) (b0 b1 b2 b3 ff : UInt64) (f0 : UInt32) (f1 : UInt32) (f2 : UInt32) (h0 : Heap) (v : Option Value) (h : Heap) (L : List Loc) : Prop := v = none ∧ W.Frw [tz] h0.size L ∧ Keep h0 h [tz] ∧ Arv Z h tz kz .double 4 [.double (FP.dadd b0 (FP.dmul ff (FP.f2d f0))), .double (FP.dadd b1 (FP.dmul ff (FP.f2d f1))), .double (FP.dadd b2 (FP.dmul ff (FP.f2d f2))), .double b3] (.double 0)
set_option maxRecDepth 65536 in
set_option maxHeartbeats 40000000 in
theorem c_add7 (l : Launch) (Z : State) (a0 : Array Value) (hw : ∀ d ∈ tables_1, d.before a0 Z = true) (x td tv tz : Addr) (kd kv kz : ClassId) (b0 b1 b2 b3 ff : UInt64) (f0 : UInt32) (hf0 : Jvm.Free.Fl.NoNaN64 (FP.f2d f0)) (hm0 : Jvm.Free.Fl.NoNaN64 (FP.dmul ff (FP.f2d f0))) (ha0 : Jvm.Free.Fl.NoNaN64 (FP.dadd b0 (FP.dmul ff (FP.f2d f0)))) (f1 : UInt32) (hf1 : Jvm.Free.Fl.NoNaN64 (FP.f2d f1)) (hm1 : Jvm.Free.Fl.NoNaN64 (FP.dmul ff (FP.f2d f1))) (ha1 : Jvm.Free.Fl.NoNaN64 (FP.dadd b1 (FP.dmul ff (FP.f2d f1)))) (f2 : UInt32) (hf2 : Jvm.Free.Fl.NoNaN64 (FP.f2d f2)) (hm2 : Jvm.Free.Fl.NoNaN64 (FP.dmul ff (FP.f2d f2))) (ha2 : Jvm.Free.Fl.NoNaN64 (FP.dadd b2 (FP.dmul ff (FP.f2d f2)))) (h0 : Heap) (E0 : Exa Z h0 x "com/example/intent_search/intentsearch/rank/CategoryVector") (Fd : Fld Z h0 x "com/example/intent_search/intentsearch/rank/CategoryVector" "dimensions" "[I" (.ref td)) (Fv : Fld Z h0 x "com/example/intent_search/intentsearch/rank/CategoryVector" "values" "[F" (.ref tv)) (Vd : Arv Z h0 td kd .int 3 [.int 0, .int 1, .int 2] (.int 0)) (Vv : Arv Z h0 tv kv .float 3 [.float f0, .float f1, .float f2] (.float 0)) (Vz : Arv Z h0 tz kz .double 4 [.double b0, .double b1, .double b2, .double b3] (.double 0)) (hd : td ≠ tz) (hv : tv ≠ tz) (hx : x ≠ tz) : W.MetN l Z (⟨"com/example/intent_search/intentsearch/rank/CategoryVector", "addTo", "([DD)V"⟩ : MethodName) prog_31_method_4_code 5 ((Option.none : Option Jvm.ClassFile.FieldType)) [] ({ frames := 0, cells := 0, slots := 0, locals := 0 } : Room) #[.ref x, .ref tz, .double ff]  h0 (QA7 Z tz kz b0 b1 b2 b3 ff f0 f1 f2 h0) := by
  refine W.MetN.mk (ls0 := #[.val (.ref x), .val (.ref tz), .val (.double ff), .second, .unset]) [tz] (plainFor_of_name pn_com_example_intent_search_intentsearch_rank_CategoryVector) (fun m => by first | (simp [entryFrame, mkF, argsToLocals, Value.category]; done) | rfl) ?_
  intro p e s m below meth c s₁ hml hret hnm hlk P0
  show W.Go p.tables e below _ (s₁.setTop (mkF m 0 #[.val (.ref x), .val (.ref tz), .val (.double ff), .second, .unset] []))
  refine W.g_iconst (pc1 := 1) (v := (0 : Int32)) P0.q d6_0 (by decide) rfl ?_
  refine W.g_istore (pc1 := 3) (ls2 := #[.val (.ref x), .val (.ref tz), .val (.double ff), .second, .val (.int (0 : Int32))]) P0.q d6_1 rfl rfl ?_
  refine W.g_iload (pc1 := 5) P0.q d6_3 rfl rfl ?_
  refine W.g_aloadN (pc1 := 6) P0.q d6_5 rfl rfl rfl ?_
  refine P0.getF (host := "") (pc1 := 9) (Or.inl (wd hw (k := 22) rfl)) Via.refl Fd d6_6 rfl ?_
  intro T157 P157
  refine P157.len (pc1 := 10) Vd d6_9 rfl ?_
  refine W.g_cmpN (pc2 := 13) P157.q d6_10 rfl (by decide) ?_
  refine W.g_aloadN (pc1 := 14) P157.q d6_13 rfl rfl rfl ?_
  refine W.g_aloadN (pc1 := 15) P157.q d6_14 rfl rfl rfl ?_
  refine P157.getF (host := "") (pc1 := 18) (Or.inl (wd hw (k := 22) rfl)) Via.refl Fd d6_15 rfl ?_
  intro T158 P158
  refine W.g_iload (pc1 := 20) P158.q d6_18 rfl rfl ?_
  refine P158.ldI (pc1 := 21) (v := (.int (0 : Int32))) Vd (by decide) (by decide) rfl d6_20 rfl ?_
  refine W.g_dup2 (pc1 := 22) P158.q d6_21 rfl rfl rfl ?_
  refine P158.ldD (pc1 := 23) (v := (.double b0)) Vz (by decide) (by decide) rfl d6_22 rfl ?_
  refine W.g_dloadN (pc1 := 24) P158.q d6_23 rfl rfl ?_
  refine W.g_aloadN (pc1 := 25) P158.q d6_24 rfl rfl rfl ?_
  refine P158.getF (host := "") (pc1 := 28) (Or.inl (wd hw (k := 24) rfl)) Via.refl Fv d6_25 rfl ?_
  intro T159 P159
  refine W.g_iload (pc1 := 30) P159.q d6_28 rfl rfl ?_
  refine P159.ldF (pc1 := 31) (v := (.float f0)) Vv (by decide) (by decide) rfl d6_30 rfl ?_
  refine W.g_f2d (pc1 := 32) P159.q d6_31 hf0 rfl ?_
  refine W.g_dmul (pc1 := 33) P159.q d6_32 hm0 rfl ?_
  refine W.g_dadd (pc1 := 34) P159.q d6_33 ha0 rfl ?_
  refine P159.stD (pc1 := 35) (i := 0) Vz (by decide) (by decide) (Nat.le_of_ble_eq_true rfl) rfl (Or.inl (List.mem_singleton.mpr rfl)) (Safe.arv P159.al Vz (by decide)) d6_34 rfl ?_
  intro T160 h160 P160 W160 V160
  have Fd160 := Fd.other W160 (Or.inl hx)
  have Fv160 := Fv.other W160 (Or.inl hx)
  have Vd160 := Vd.other W160 hd
  have Vv160 := Vv.other W160 hv
  refine W.g_iinc (pc1 := 38) (ls2 := #[.val (.ref x), .val (.ref tz), .val (.double ff), .second, .val (.int ((0 : Int32) + Int32.ofInt 1))]) P160.q d6_35 rfl rfl rfl ?_
  refine W.g_goto (pc1 := 3) P160.q d6_38 (by decide) rfl ?_
  refine W.g_iload (pc1 := 5) P160.q d6_3 rfl rfl ?_
  refine W.g_aloadN (pc1 := 6) P160.q d6_5 rfl rfl rfl ?_
  refine P160.getF (host := "") (pc1 := 9) (Or.inl (wd hw (k := 22) rfl)) Via.refl Fd160 d6_6 rfl ?_
  intro T161 P161
  refine P161.len (pc1 := 10) Vd160 d6_9 rfl ?_
  show W.Go p.tables e below _ (T161.setTop (mkF m 10 #[.val (.ref x), .val (.ref tz), .val (.double ff), .second, .val (.int (1 : Int32))] [(.int (3 : Int32)), (.int (1 : Int32))]))
  refine W.g_cmpN (pc2 := 13) P161.q d6_10 rfl (by decide) ?_
  refine W.g_aloadN (pc1 := 14) P161.q d6_13 rfl rfl rfl ?_
  refine W.g_aloadN (pc1 := 15) P161.q d6_14 rfl rfl rfl ?_
  refine P161.getF (host := "") (pc1 := 18) (Or.inl (wd hw (k := 22) rfl)) Via.refl Fd160 d6_15 rfl ?_
  intro T162 P162
  refine W.g_iload (pc1 := 20) P162.q d6_18 rfl rfl ?_
  refine P162.ldI (pc1 := 21) (v := (.int (1 : Int32))) Vd160 (by decide) (by decide) rfl d6_20 rfl ?_
  refine W.g_dup2 (pc1 := 22) P162.q d6_21 rfl rfl rfl ?_
  refine P162.ldD (pc1 := 23) (v := (.double b1)) V160 (by decide) (by decide) rfl d6_22 rfl ?_
  refine W.g_dloadN (pc1 := 24) P162.q d6_23 rfl rfl ?_
  refine W.g_aloadN (pc1 := 25) P162.q d6_24 rfl rfl rfl ?_
  refine P162.getF (host := "") (pc1 := 28) (Or.inl (wd hw (k := 24) rfl)) Via.refl Fv160 d6_25 rfl ?_
  intro T163 P163
  refine W.g_iload (pc1 := 30) P163.q d6_28 rfl rfl ?_
  refine P163.ldF (pc1 := 31) (v := (.float f1)) Vv160 (by decide) (by decide) rfl d6_30 rfl ?_
  refine W.g_f2d (pc1 := 32) P163.q d6_31 hf1 rfl ?_
  refine W.g_dmul (pc1 := 33) P163.q d6_32 hm1 rfl ?_
  refine W.g_dadd (pc1 := 34) P163.q d6_33 ha1 rfl ?_
  refine P163.stD (pc1 := 35) (i := 1) V160 (by decide) (by decide) (Nat.le_of_ble_eq_true rfl) rfl (Or.inl (List.mem_singleton.mpr rfl)) (Safe.arv P163.al V160 (by decide)) d6_34 rfl ?_
  intro T164 h164 P164 W164 V164
  have Fd164 := Fd160.other W164 (Or.inl hx)
  have Fv164 := Fv160.other W164 (Or.inl hx)
  have Vd164 := Vd160.other W164 hd
  have Vv164 := Vv160.other W164 hv
  refine W.g_iinc (pc1 := 38) (ls2 := #[.val (.ref x), .val (.ref tz), .val (.double ff), .second, .val (.int ((1 : Int32) + Int32.ofInt 1))]) P164.q d6_35 rfl rfl rfl ?_
  refine W.g_goto (pc1 := 3) P164.q d6_38 (by decide) rfl ?_
  refine W.g_iload (pc1 := 5) P164.q d6_3 rfl rfl ?_
  refine W.g_aloadN (pc1 := 6) P164.q d6_5 rfl rfl rfl ?_
  refine P164.getF (host := "") (pc1 := 9) (Or.inl (wd hw (k := 22) rfl)) Via.refl Fd164 d6_6 rfl ?_
  intro T165 P165
  refine P165.len (pc1 := 10) Vd164 d6_9 rfl ?_
  show W.Go p.tables e below _ (T165.setTop (mkF m 10 #[.val (.ref x), .val (.ref tz), .val (.double ff), .second, .val (.int (2 : Int32))] [(.int (3 : Int32)), (.int (2 : Int32))]))
  refine W.g_cmpN (pc2 := 13) P165.q d6_10 rfl (by decide) ?_
  refine W.g_aloadN (pc1 := 14) P165.q d6_13 rfl rfl rfl ?_
  refine W.g_aloadN (pc1 := 15) P165.q d6_14 rfl rfl rfl ?_
  refine P165.getF (host := "") (pc1 := 18) (Or.inl (wd hw (k := 22) rfl)) Via.refl Fd164 d6_15 rfl ?_
  intro T166 P166
  refine W.g_iload (pc1 := 20) P166.q d6_18 rfl rfl ?_
  refine P166.ldI (pc1 := 21) (v := (.int (2 : Int32))) Vd164 (by decide) (by decide) rfl d6_20 rfl ?_
  refine W.g_dup2 (pc1 := 22) P166.q d6_21 rfl rfl rfl ?_
  refine P166.ldD (pc1 := 23) (v := (.double b2)) V164 (by decide) (by decide) rfl d6_22 rfl ?_
  refine W.g_dloadN (pc1 := 24) P166.q d6_23 rfl rfl ?_
  refine W.g_aloadN (pc1 := 25) P166.q d6_24 rfl rfl rfl ?_
  refine P166.getF (host := "") (pc1 := 28) (Or.inl (wd hw (k := 24) rfl)) Via.refl Fv164 d6_25 rfl ?_
  intro T167 P167
  refine W.g_iload (pc1 := 30) P167.q d6_28 rfl rfl ?_
  refine P167.ldF (pc1 := 31) (v := (.float f2)) Vv164 (by decide) (by decide) rfl d6_30 rfl ?_
  refine W.g_f2d (pc1 := 32) P167.q d6_31 hf2 rfl ?_
  refine W.g_dmul (pc1 := 33) P167.q d6_32 hm2 rfl ?_
  refine W.g_dadd (pc1 := 34) P167.q d6_33 ha2 rfl ?_
  refine P167.stD (pc1 := 35) (i := 2) V164 (by decide) (by decide) (Nat.le_of_ble_eq_true rfl) rfl (Or.inl (List.mem_singleton.mpr rfl)) (Safe.arv P167.al V164 (by decide)) d6_34 rfl ?_
  intro T168 h168 P168 W168 V168
  have Fd168 := Fd164.other W168 (Or.inl hx)
  have Fv168 := Fv164.other W168 (Or.inl hx)
  have Vd168 := Vd164.other W168 hd
  have Vv168 := Vv164.other W168 hv
  refine W.g_iinc (pc1 := 38) (ls2 := #[.val (.ref x), .val (.ref tz), .val (.double ff), .second, .val (.int ((2 : Int32) + Int32.ofInt 1))]) P168.q d6_35 rfl rfl rfl ?_
  refine W.g_goto (pc1 := 3) P168.q d6_38 (by decide) rfl ?_
  refine W.g_iload (pc1 := 5) P168.q d6_3 rfl rfl ?_
  refine W.g_aloadN (pc1 := 6) P168.q d6_5 rfl rfl rfl ?_
  refine P168.getF (host := "") (pc1 := 9) (Or.inl (wd hw (k := 22) rfl)) Via.refl Fd168 d6_6 rfl ?_
  intro T169 P169
  refine P169.len (pc1 := 10) Vd168 d6_9 rfl ?_
  show W.Go p.tables e below _ (T169.setTop (mkF m 10 #[.val (.ref x), .val (.ref tz), .val (.double ff), .second, .val (.int (3 : Int32))] [(.int (3 : Int32)), (.int (3 : Int32))]))
  refine W.g_cmpY (pc1 := 41) P169.q d6_10 (by decide) rfl (by decide) ?_
  exact P169.retN hlk hret d6_41 (by decide) (by decide) ⟨rfl, P169.fr, P169.keep, V168⟩
def QA8 (Z : State) (tz : Addr) (kz : ClassId) (b0 b1 b2 b3 ff : UInt64) (f0 : UInt32) (h0 : Heap) (v : Option Value) (h : Heap) (L : List Loc) : Prop := v = none ∧ W.Frw [tz] h0.size L ∧ Keep h0 h [tz] ∧ Arv Z h tz kz .double 4 [.double b0, .double b1, .double b2, .double (FP.dadd b3 (FP.dmul ff (FP.f2d f0)))] (.double 0)
set_option maxRecDepth 65536 in
set_option maxHeartbeats 40000000 in
theorem c_add8 (l : Launch) (Z : State) (a0 : Array Value) (hw : ∀ d ∈ tables_1, d.before a0 Z = true) (x td tv tz : Addr) (kd kv kz : ClassId) (b0 b1 b2 b3 ff : UInt64) (f0 : UInt32) (hf0 : Jvm.Free.Fl.NoNaN64 (FP.f2d f0)) (hm0 : Jvm.Free.Fl.NoNaN64 (FP.dmul ff (FP.f2d f0))) (ha0 : Jvm.Free.Fl.NoNaN64 (FP.dadd b3 (FP.dmul ff (FP.f2d f0)))) (h0 : Heap) (E0 : Exa Z h0 x "com/example/intent_search/intentsearch/rank/CategoryVector") (Fd : Fld Z h0 x "com/example/intent_search/intentsearch/rank/CategoryVector" "dimensions" "[I" (.ref td)) (Fv : Fld Z h0 x "com/example/intent_search/intentsearch/rank/CategoryVector" "values" "[F" (.ref tv)) (Vd : Arv Z h0 td kd .int 1 [.int 3] (.int 0)) (Vv : Arv Z h0 tv kv .float 1 [.float f0] (.float 0)) (Vz : Arv Z h0 tz kz .double 4 [.double b0, .double b1, .double b2, .double b3] (.double 0)) (hd : td ≠ tz) (hv : tv ≠ tz) (hx : x ≠ tz) : W.MetN l Z (⟨"com/example/intent_search/intentsearch/rank/CategoryVector", "addTo", "([DD)V"⟩ : MethodName) prog_31_method_4_code 5 ((Option.none : Option Jvm.ClassFile.FieldType)) [] ({ frames := 0, cells := 0, slots := 0, locals := 0 } : Room) #[.ref x, .ref tz, .double ff]  h0 (QA8 Z tz kz b0 b1 b2 b3 ff f0 h0) := by
  refine W.MetN.mk (ls0 := #[.val (.ref x), .val (.ref tz), .val (.double ff), .second, .unset]) [tz] (plainFor_of_name pn_com_example_intent_search_intentsearch_rank_CategoryVector) (fun m => by first | (simp [entryFrame, mkF, argsToLocals, Value.category]; done) | rfl) ?_
  intro p e s m below meth c s₁ hml hret hnm hlk P0
  show W.Go p.tables e below _ (s₁.setTop (mkF m 0 #[.val (.ref x), .val (.ref tz), .val (.double ff), .second, .unset] []))
  refine W.g_iconst (pc1 := 1) (v := (0 : Int32)) P0.q d6_0 (by decide) rfl ?_
  refine W.g_istore (pc1 := 3) (ls2 := #[.val (.ref x), .val (.ref tz), .val (.double ff), .second, .val (.int (0 : Int32))]) P0.q d6_1 rfl rfl ?_
  refine W.g_iload (pc1 := 5) P0.q d6_3 rfl rfl ?_
  refine W.g_aloadN (pc1 := 6) P0.q d6_5 rfl rfl rfl ?_
  refine P0.getF (host := "") (pc1 := 9) (Or.inl (wd hw (k := 22) rfl)) Via.refl Fd d6_6 rfl ?_
  intro T170 P170
  refine P170.len (pc1 := 10) Vd d6_9 rfl ?_
  refine W.g_cmpN (pc2 := 13) P170.q d6_10 rfl (by decide) ?_
  refine W.g_aloadN (pc1 := 14) P170.q d6_13 rfl rfl rfl ?_
  refine W.g_aloadN (pc1 := 15) P170.q d6_14 rfl rfl rfl ?_
  refine P170.getF (host := "") (pc1 := 18) (Or.inl (wd hw (k := 22) rfl)) Via.refl Fd d6_15 rfl ?_
  intro T171 P171
  refine W.g_iload (pc1 := 20) P171.q d6_18 rfl rfl ?_
  refine P171.ldI (pc1 := 21) (v := (.int (3 : Int32))) Vd (by decide) (by decide) rfl d6_20 rfl ?_
  refine W.g_dup2 (pc1 := 22) P171.q d6_21 rfl rfl rfl ?_
  refine P171.ldD (pc1 := 23) (v := (.double b3)) Vz (by decide) (by decide) rfl d6_22 rfl ?_
  refine W.g_dloadN (pc1 := 24) P171.q d6_23 rfl rfl ?_
  refine W.g_aloadN (pc1 := 25) P171.q d6_24 rfl rfl rfl ?_
  refine P171.getF (host := "") (pc1 := 28) (Or.inl (wd hw (k := 24) rfl)) Via.refl Fv d6_25 rfl ?_
  intro T172 P172
  refine W.g_iload (pc1 := 30) P172.q d6_28 rfl rfl ?_
  refine P172.ldF (pc1 := 31) (v := (.float f0)) Vv (by decide) (by decide) rfl d6_30 rfl ?_
  refine W.g_f2d (pc1 := 32) P172.q d6_31 hf0 rfl ?_
  refine W.g_dmul (pc1 := 33) P172.q d6_32 hm0 rfl ?_
  refine W.g_dadd (pc1 := 34) P172.q d6_33 ha0 rfl ?_
  refine P172.stD (pc1 := 35) (i := 3) Vz (by decide) (by decide) (Nat.le_of_ble_eq_true rfl) rfl (Or.inl (List.mem_singleton.mpr rfl)) (Safe.arv P172.al Vz (by decide)) d6_34 rfl ?_
  intro T173 h173 P173 W173 V173
  have Fd173 := Fd.other W173 (Or.inl hx)
  have Fv173 := Fv.other W173 (Or.inl hx)
  have Vd173 := Vd.other W173 hd
  have Vv173 := Vv.other W173 hv
  refine W.g_iinc (pc1 := 38) (ls2 := #[.val (.ref x), .val (.ref tz), .val (.double ff), .second, .val (.int ((0 : Int32) + Int32.ofInt 1))]) P173.q d6_35 rfl rfl rfl ?_
  refine W.g_goto (pc1 := 3) P173.q d6_38 (by decide) rfl ?_
  refine W.g_iload (pc1 := 5) P173.q d6_3 rfl rfl ?_
  refine W.g_aloadN (pc1 := 6) P173.q d6_5 rfl rfl rfl ?_
  refine P173.getF (host := "") (pc1 := 9) (Or.inl (wd hw (k := 22) rfl)) Via.refl Fd173 d6_6 rfl ?_
  intro T174 P174
  refine P174.len (pc1 := 10) Vd173 d6_9 rfl ?_
  show W.Go p.tables e below _ (T174.setTop (mkF m 10 #[.val (.ref x), .val (.ref tz), .val (.double ff), .second, .val (.int (1 : Int32))] [(.int (1 : Int32)), (.int (1 : Int32))]))
  refine W.g_cmpY (pc1 := 41) P174.q d6_10 (by decide) rfl (by decide) ?_
  exact P174.retN hlk hret d6_41 (by decide) (by decide) ⟨rfl, P174.fr, P174.keep, V173⟩
def QA9 (Z : State) (tz : Addr) (kz : ClassId) (b0 b1 b2 b3 ff : UInt64) (f0 : UInt32) (f1 : UInt32) (h0 : Heap) (v : Option Value) (h : Heap) (L : List Loc) : Prop := v = none ∧ W.Frw [tz] h0.size L ∧ Keep h0 h [tz] ∧ Arv Z h tz kz .double 4 [.double (FP.dadd b0 (FP.dmul ff (FP.f2d f0))), .double b1, .double b2, .double (FP.dadd b3 (FP.dmul ff (FP.f2d f1)))] (.double 0)
set_option maxRecDepth 65536 in
set_option maxHeartbeats 40000000 in
theorem c_add9 (l : Launch) (Z : State) (a0 : Array Value) (hw : ∀ d ∈ tables_1, d.before a0 Z = true) (x td tv tz : Addr) (kd kv kz : ClassId) (b0 b1 b2 b3 ff : UInt64) (f0 : UInt32) (hf0 : Jvm.Free.Fl.NoNaN64 (FP.f2d f0)) (hm0 : Jvm.Free.Fl.NoNaN64 (FP.dmul ff (FP.f2d f0))) (ha0 : Jvm.Free.Fl.NoNaN64 (FP.dadd b0 (FP.dmul ff (FP.f2d f0)))) (f1 : UInt32) (hf1 : Jvm.Free.Fl.NoNaN64 (FP.f2d f1)) (hm1 : Jvm.Free.Fl.NoNaN64 (FP.dmul ff (FP.f2d f1))) (ha1 : Jvm.Free.Fl.NoNaN64 (FP.dadd b3 (FP.dmul ff (FP.f2d f1)))) (h0 : Heap) (E0 : Exa Z h0 x "com/example/intent_search/intentsearch/rank/CategoryVector") (Fd : Fld Z h0 x "com/example/intent_search/intentsearch/rank/CategoryVector" "dimensions" "[I" (.ref td)) (Fv : Fld Z h0 x "com/example/intent_search/intentsearch/rank/CategoryVector" "values" "[F" (.ref tv)) (Vd : Arv Z h0 td kd .int 2 [.int 0, .int 3] (.int 0)) (Vv : Arv Z h0 tv kv .float 2 [.float f0, .float f1] (.float 0)) (Vz : Arv Z h0 tz kz .double 4 [.double b0, .double b1, .double b2, .double b3] (.double 0)) (hd : td ≠ tz) (hv : tv ≠ tz) (hx : x ≠ tz) : W.MetN l Z (⟨"com/example/intent_search/intentsearch/rank/CategoryVector", "addTo", "([DD)V"⟩ : MethodName) prog_31_method_4_code 5 ((Option.none : Option Jvm.ClassFile.FieldType)) [] ({ frames := 0, cells := 0, slots := 0, locals := 0 } : Room) #[.ref x, .ref tz, .double ff]  h0 (QA9 Z tz kz b0 b1 b2 b3 ff f0 f1 h0) := by
  refine W.MetN.mk (ls0 := #[.val (.ref x), .val (.ref tz), .val (.double ff), .second, .unset]) [tz] (plainFor_of_name pn_com_example_intent_search_intentsearch_rank_CategoryVector) (fun m => by first | (simp [entryFrame, mkF, argsToLocals, Value.category]; done) | rfl) ?_
  intro p e s m below meth c s₁ hml hret hnm hlk P0
  show W.Go p.tables e below _ (s₁.setTop (mkF m 0 #[.val (.ref x), .val (.ref tz), .val (.double ff), .second, .unset] []))
  refine W.g_iconst (pc1 := 1) (v := (0 : Int32)) P0.q d6_0 (by decide) rfl ?_
  refine W.g_istore (pc1 := 3) (ls2 := #[.val (.ref x), .val (.ref tz), .val (.double ff), .second, .val (.int (0 : Int32))]) P0.q d6_1 rfl rfl ?_
  refine W.g_iload (pc1 := 5) P0.q d6_3 rfl rfl ?_
  refine W.g_aloadN (pc1 := 6) P0.q d6_5 rfl rfl rfl ?_
  refine P0.getF (host := "") (pc1 := 9) (Or.inl (wd hw (k := 22) rfl)) Via.refl Fd d6_6 rfl ?_
  intro T175 P175
  refine P175.len (pc1 := 10) Vd d6_9 rfl ?_
  refine W.g_cmpN (pc2 := 13) P175.q d6_10 rfl (by decide) ?_
  refine W.g_aloadN (pc1 := 14) P175.q d6_13 rfl rfl rfl ?_
  refine W.g_aloadN (pc1 := 15) P175.q d6_14 rfl rfl rfl ?_
  refine P175.getF (host := "") (pc1 := 18) (Or.inl (wd hw (k := 22) rfl)) Via.refl Fd d6_15 rfl ?_
  intro T176 P176
  refine W.g_iload (pc1 := 20) P176.q d6_18 rfl rfl ?_
  refine P176.ldI (pc1 := 21) (v := (.int (0 : Int32))) Vd (by decide) (by decide) rfl d6_20 rfl ?_
  refine W.g_dup2 (pc1 := 22) P176.q d6_21 rfl rfl rfl ?_
  refine P176.ldD (pc1 := 23) (v := (.double b0)) Vz (by decide) (by decide) rfl d6_22 rfl ?_
  refine W.g_dloadN (pc1 := 24) P176.q d6_23 rfl rfl ?_
  refine W.g_aloadN (pc1 := 25) P176.q d6_24 rfl rfl rfl ?_
  refine P176.getF (host := "") (pc1 := 28) (Or.inl (wd hw (k := 24) rfl)) Via.refl Fv d6_25 rfl ?_
  intro T177 P177
  refine W.g_iload (pc1 := 30) P177.q d6_28 rfl rfl ?_
  refine P177.ldF (pc1 := 31) (v := (.float f0)) Vv (by decide) (by decide) rfl d6_30 rfl ?_
  refine W.g_f2d (pc1 := 32) P177.q d6_31 hf0 rfl ?_
  refine W.g_dmul (pc1 := 33) P177.q d6_32 hm0 rfl ?_
  refine W.g_dadd (pc1 := 34) P177.q d6_33 ha0 rfl ?_
  refine P177.stD (pc1 := 35) (i := 0) Vz (by decide) (by decide) (Nat.le_of_ble_eq_true rfl) rfl (Or.inl (List.mem_singleton.mpr rfl)) (Safe.arv P177.al Vz (by decide)) d6_34 rfl ?_
  intro T178 h178 P178 W178 V178
  have Fd178 := Fd.other W178 (Or.inl hx)
  have Fv178 := Fv.other W178 (Or.inl hx)
  have Vd178 := Vd.other W178 hd
  have Vv178 := Vv.other W178 hv
  refine W.g_iinc (pc1 := 38) (ls2 := #[.val (.ref x), .val (.ref tz), .val (.double ff), .second, .val (.int ((0 : Int32) + Int32.ofInt 1))]) P178.q d6_35 rfl rfl rfl ?_
  refine W.g_goto (pc1 := 3) P178.q d6_38 (by decide) rfl ?_
  refine W.g_iload (pc1 := 5) P178.q d6_3 rfl rfl ?_
  refine W.g_aloadN (pc1 := 6) P178.q d6_5 rfl rfl rfl ?_
  refine P178.getF (host := "") (pc1 := 9) (Or.inl (wd hw (k := 22) rfl)) Via.refl Fd178 d6_6 rfl ?_
  intro T179 P179
  refine P179.len (pc1 := 10) Vd178 d6_9 rfl ?_
  show W.Go p.tables e below _ (T179.setTop (mkF m 10 #[.val (.ref x), .val (.ref tz), .val (.double ff), .second, .val (.int (1 : Int32))] [(.int (2 : Int32)), (.int (1 : Int32))]))
  refine W.g_cmpN (pc2 := 13) P179.q d6_10 rfl (by decide) ?_
  refine W.g_aloadN (pc1 := 14) P179.q d6_13 rfl rfl rfl ?_
  refine W.g_aloadN (pc1 := 15) P179.q d6_14 rfl rfl rfl ?_
  refine P179.getF (host := "") (pc1 := 18) (Or.inl (wd hw (k := 22) rfl)) Via.refl Fd178 d6_15 rfl ?_
  intro T180 P180
  refine W.g_iload (pc1 := 20) P180.q d6_18 rfl rfl ?_
  refine P180.ldI (pc1 := 21) (v := (.int (3 : Int32))) Vd178 (by decide) (by decide) rfl d6_20 rfl ?_
  refine W.g_dup2 (pc1 := 22) P180.q d6_21 rfl rfl rfl ?_
  refine P180.ldD (pc1 := 23) (v := (.double b3)) V178 (by decide) (by decide) rfl d6_22 rfl ?_
  refine W.g_dloadN (pc1 := 24) P180.q d6_23 rfl rfl ?_
  refine W.g_aloadN (pc1 := 25) P180.q d6_24 rfl rfl rfl ?_
  refine P180.getF (host := "") (pc1 := 28) (Or.inl (wd hw (k := 24) rfl)) Via.refl Fv178 d6_25 rfl ?_
  intro T181 P181
  refine W.g_iload (pc1 := 30) P181.q d6_28 rfl rfl ?_
  refine P181.ldF (pc1 := 31) (v := (.float f1)) Vv178 (by decide) (by decide) rfl d6_30 rfl ?_
  refine W.g_f2d (pc1 := 32) P181.q d6_31 hf1 rfl ?_
  refine W.g_dmul (pc1 := 33) P181.q d6_32 hm1 rfl ?_
  refine W.g_dadd (pc1 := 34) P181.q d6_33 ha1 rfl ?_
  refine P181.stD (pc1 := 35) (i := 3) V178 (by decide) (by decide) (Nat.le_of_ble_eq_true rfl) rfl (Or.inl (List.mem_singleton.mpr rfl)) (Safe.arv P181.al V178 (by decide)) d6_34 rfl ?_
  intro T182 h182 P182 W182 V182
  have Fd182 := Fd178.other W182 (Or.inl hx)
  have Fv182 := Fv178.other W182 (Or.inl hx)
  have Vd182 := Vd178.other W182 hd
  have Vv182 := Vv178.other W182 hv
  refine W.g_iinc (pc1 := 38) (ls2 := #[.val (.ref x), .val (.ref tz), .val (.double ff), .second, .val (.int ((1 : Int32) + Int32.ofInt 1))]) P182.q d6_35 rfl rfl rfl ?_
  refine W.g_goto (pc1 := 3) P182.q d6_38 (by decide) rfl ?_
  refine W.g_iload (pc1 := 5) P182.q d6_3 rfl rfl ?_
  refine W.g_aloadN (pc1 := 6) P182.q d6_5 rfl rfl rfl ?_
  refine P182.getF (host := "") (pc1 := 9) (Or.inl (wd hw (k := 22) rfl)) Via.refl Fd182 d6_6 rfl ?_
  intro T183 P183
  refine P183.len (pc1 := 10) Vd182 d6_9 rfl ?_
  show W.Go p.tables e below _ (T183.setTop (mkF m 10 #[.val (.ref x), .val (.ref tz), .val (.double ff), .second, .val (.int (2 : Int32))] [(.int (2 : Int32)), (.int (2 : Int32))]))
  refine W.g_cmpY (pc1 := 41) P183.q d6_10 (by decide) rfl (by decide) ?_
  exact P183.retN hlk hret d6_41 (by decide) (by decide) ⟨rfl, P183.fr, P183.keep, V182⟩
def QA10 (Z : State) (tz : Addr) (kz : ClassId) (b0 b1 b2 b3 ff : UInt64) (f0 : UInt32) (f1 : UInt32) (h0 : Heap) (v : Option Value) (h : Heap) (L : List Loc) : Prop := v = none ∧ W.Frw [tz] h0.size L ∧ Keep h0 h [tz] ∧ Arv Z h tz kz .double 4 [.double b0, .double (FP.dadd b1 (FP.dmul ff (FP.f2d f0))), .double b2, .double (FP.dadd b3 (FP.dmul ff (FP.f2d f1)))] (.double 0)
set_option maxRecDepth 65536 in
set_option maxHeartbeats 40000000 in
theorem c_add10 (l : Launch) (Z : State) (a0 : Array Value) (hw : ∀ d ∈ tables_1, d.before a0 Z = true) (x td tv tz : Addr) (kd kv kz : ClassId) (b0 b1 b2 b3 ff : UInt64) (f0 : UInt32) (hf0 : Jvm.Free.Fl.NoNaN64 (FP.f2d f0)) (hm0 : Jvm.Free.Fl.NoNaN64 (FP.dmul ff (FP.f2d f0))) (ha0 : Jvm.Free.Fl.NoNaN64 (FP.dadd b1 (FP.dmul ff (FP.f2d f0)))) (f1 : UInt32) (hf1 : Jvm.Free.Fl.NoNaN64 (FP.f2d f1)) (hm1 : Jvm.Free.Fl.NoNaN64 (FP.dmul ff (FP.f2d f1))) (ha1 : Jvm.Free.Fl.NoNaN64 (FP.dadd b3 (FP.dmul ff (FP.f2d f1)))) (h0 : Heap) (E0 : Exa Z h0 x "com/example/intent_search/intentsearch/rank/CategoryVector") (Fd : Fld Z h0 x "com/example/intent_search/intentsearch/rank/CategoryVector" "dimensions" "[I" (.ref td)) (Fv : Fld Z h0 x "com/example/intent_search/intentsearch/rank/CategoryVector" "values" "[F" (.ref tv)) (Vd : Arv Z h0 td kd .int 2 [.int 1, .int 3] (.int 0)) (Vv : Arv Z h0 tv kv .float 2 [.float f0, .float f1] (.float 0)) (Vz : Arv Z h0 tz kz .double 4 [.double b0, .double b1, .double b2, .double b3] (.double 0)) (hd : td ≠ tz) (hv : tv ≠ tz) (hx : x ≠ tz) : W.MetN l Z (⟨"com/example/intent_search/intentsearch/rank/CategoryVector", "addTo", "([DD)V"⟩ : MethodName) prog_31_method_4_code 5 ((Option.none : Option Jvm.ClassFile.FieldType)) [] ({ frames := 0, cells := 0, slots := 0, locals := 0 } : Room) #[.ref x, .ref tz, .double ff]  h0 (QA10 Z tz kz b0 b1 b2 b3 ff f0 f1 h0) := by
  refine W.MetN.mk (ls0 := #[.val (.ref x), .val (.ref tz), .val (.double ff), .second, .unset]) [tz] (plainFor_of_name pn_com_example_intent_search_intentsearch_rank_CategoryVector) (fun m => by first | (simp [entryFrame, mkF, argsToLocals, Value.category]; done) | rfl) ?_
  intro p e s m below meth c s₁ hml hret hnm hlk P0
  show W.Go p.tables e below _ (s₁.setTop (mkF m 0 #[.val (.ref x), .val (.ref tz), .val (.double ff), .second, .unset] []))
  refine W.g_iconst (pc1 := 1) (v := (0 : Int32)) P0.q d6_0 (by decide) rfl ?_
  refine W.g_istore (pc1 := 3) (ls2 := #[.val (.ref x), .val (.ref tz), .val (.double ff), .second, .val (.int (0 : Int32))]) P0.q d6_1 rfl rfl ?_
  refine W.g_iload (pc1 := 5) P0.q d6_3 rfl rfl ?_
  refine W.g_aloadN (pc1 := 6) P0.q d6_5 rfl rfl rfl ?_
  refine P0.getF (host := "") (pc1 := 9) (Or.inl (wd hw (k := 22) rfl)) Via.refl Fd d6_6 rfl ?_
  intro T184 P184
  refine P184.len (pc1 := 10) Vd d6_9 rfl ?_
  refine W.g_cmpN (pc2 := 13) P184.q d6_10 rfl (by decide) ?_
  refine W.g_aloadN (pc1 := 14) P184.q d6_13 rfl rfl rfl ?_
  refine W.g_aloadN (pc1 := 15) P184.q d6_14 rfl rfl rfl ?_
  refine P184.getF (host := "") (pc1 := 18) (Or.inl (wd hw (k := 22) rfl)) Via.refl Fd d6_15 rfl ?_
  intro T185 P185
  refine W.g_iload (pc1 := 20) P185.q d6_18 rfl rfl ?_
  refine P185.ldI (pc1 := 21) (v := (.int (1 : Int32))) Vd (by decide) (by decide) rfl d6_20 rfl ?_
  refine W.g_dup2 (pc1 := 22) P185.q d6_21 rfl rfl rfl ?_
  refine P185.ldD (pc1 := 23) (v := (.double b1)) Vz (by decide) (by decide) rfl d6_22 rfl ?_
  refine W.g_dloadN (pc1 := 24) P185.q d6_23 rfl rfl ?_
  refine W.g_aloadN (pc1 := 25) P185.q d6_24 rfl rfl rfl ?_
  refine P185.getF (host := "") (pc1 := 28) (Or.inl (wd hw (k := 24) rfl)) Via.refl Fv d6_25 rfl ?_
  intro T186 P186
  refine W.g_iload (pc1 := 30) P186.q d6_28 rfl rfl ?_
  refine P186.ldF (pc1 := 31) (v := (.float f0)) Vv (by decide) (by decide) rfl d6_30 rfl ?_
  refine W.g_f2d (pc1 := 32) P186.q d6_31 hf0 rfl ?_
  refine W.g_dmul (pc1 := 33) P186.q d6_32 hm0 rfl ?_
  refine W.g_dadd (pc1 := 34) P186.q d6_33 ha0 rfl ?_
  refine P186.stD (pc1 := 35) (i := 1) Vz (by decide) (by decide) (Nat.le_of_ble_eq_true rfl) rfl (Or.inl (List.mem_singleton.mpr rfl)) (Safe.arv P186.al Vz (by decide)) d6_34 rfl ?_
  intro T187 h187 P187 W187 V187
  have Fd187 := Fd.other W187 (Or.inl hx)
  have Fv187 := Fv.other W187 (Or.inl hx)
  have Vd187 := Vd.other W187 hd
  have Vv187 := Vv.other W187 hv
  refine W.g_iinc (pc1 := 38) (ls2 := #[.val (.ref x), .val (.ref tz), .val (.double ff), .second, .val (.int ((0 : Int32) + Int32.ofInt 1))]) P187.q d6_35 rfl rfl rfl ?_
  refine W.g_goto (pc1 := 3) P187.q d6_38 (by decide) rfl ?_
  refine W.g_iload (pc1 := 5) P187.q d6_3 rfl rfl ?_
  refine W.g_aloadN (pc1 := 6) P187.q d6_5 rfl rfl rfl ?_
  refine P187.getF (host := "") (pc1 := 9) (Or.inl (wd hw (k := 22) rfl)) Via.refl Fd187 d6_6 rfl ?_
  intro T188 P188
  refine P188.len (pc1 := 10) Vd187 d6_9 rfl ?_
  show W.Go p.tables e below _ (T188.setTop (mkF m 10 #[.val (.ref x), .val (.ref tz), .val (.double ff), .second, .val (.int (1 : Int32))] [(.int (2 : Int32)), (.int (1 : Int32))]))
  refine W.g_cmpN (pc2 := 13) P188.q d6_10 rfl (by decide) ?_
  refine W.g_aloadN (pc1 := 14) P188.q d6_13 rfl rfl rfl ?_
  refine W.g_aloadN (pc1 := 15) P188.q d6_14 rfl rfl rfl ?_
  refine P188.getF (host := "") (pc1 := 18) (Or.inl (wd hw (k := 22) rfl)) Via.refl Fd187 d6_15 rfl ?_
  intro T189 P189
  refine W.g_iload (pc1 := 20) P189.q d6_18 rfl rfl ?_
  refine P189.ldI (pc1 := 21) (v := (.int (3 : Int32))) Vd187 (by decide) (by decide) rfl d6_20 rfl ?_
  refine W.g_dup2 (pc1 := 22) P189.q d6_21 rfl rfl rfl ?_
  refine P189.ldD (pc1 := 23) (v := (.double b3)) V187 (by decide) (by decide) rfl d6_22 rfl ?_
  refine W.g_dloadN (pc1 := 24) P189.q d6_23 rfl rfl ?_
  refine W.g_aloadN (pc1 := 25) P189.q d6_24 rfl rfl rfl ?_
  refine P189.getF (host := "") (pc1 := 28) (Or.inl (wd hw (k := 24) rfl)) Via.refl Fv187 d6_25 rfl ?_
  intro T190 P190
  refine W.g_iload (pc1 := 30) P190.q d6_28 rfl rfl ?_
  refine P190.ldF (pc1 := 31) (v := (.float f1)) Vv187 (by decide) (by decide) rfl d6_30 rfl ?_
  refine W.g_f2d (pc1 := 32) P190.q d6_31 hf1 rfl ?_
  refine W.g_dmul (pc1 := 33) P190.q d6_32 hm1 rfl ?_
  refine W.g_dadd (pc1 := 34) P190.q d6_33 ha1 rfl ?_
  refine P190.stD (pc1 := 35) (i := 3) V187 (by decide) (by decide) (Nat.le_of_ble_eq_true rfl) rfl (Or.inl (List.mem_singleton.mpr rfl)) (Safe.arv P190.al V187 (by decide)) d6_34 rfl ?_
  intro T191 h191 P191 W191 V191
  have Fd191 := Fd187.other W191 (Or.inl hx)
  have Fv191 := Fv187.other W191 (Or.inl hx)
  have Vd191 := Vd187.other W191 hd
  have Vv191 := Vv187.other W191 hv
  refine W.g_iinc (pc1 := 38) (ls2 := #[.val (.ref x), .val (.ref tz), .val (.double ff), .second, .val (.int ((1 : Int32) + Int32.ofInt 1))]) P191.q d6_35 rfl rfl rfl ?_
  refine W.g_goto (pc1 := 3) P191.q d6_38 (by decide) rfl ?_
  refine W.g_iload (pc1 := 5) P191.q d6_3 rfl rfl ?_
  refine W.g_aloadN (pc1 := 6) P191.q d6_5 rfl rfl rfl ?_
  refine P191.getF (host := "") (pc1 := 9) (Or.inl (wd hw (k := 22) rfl)) Via.refl Fd191 d6_6 rfl ?_
  intro T192 P192
  refine P192.len (pc1 := 10) Vd191 d6_9 rfl ?_
  show W.Go p.tables e below _ (T192.setTop (mkF m 10 #[.val (.ref x), .val (.ref tz), .val (.double ff), .second, .val (.int (2 : Int32))] [(.int (2 : Int32)), (.int (2 : Int32))]))
  refine W.g_cmpY (pc1 := 41) P192.q d6_10 (by decide) rfl (by decide) ?_
  exact P192.retN hlk hret d6_41 (by decide) (by decide) ⟨rfl, P192.fr, P192.keep, V191⟩
def QA11 (Z : State) (tz : Addr) (kz : ClassId) (b0 b1 b2 b3 ff : UInt64) (f0 : UInt32) (f1 : UInt32) (f2 : UInt32) (h0 : Heap) (v : Option Value) (h : Heap) (L : List Loc) : Prop := v = none ∧ W.Frw [tz] h0.size L ∧ Keep h0 h [tz] ∧ Arv Z h tz kz .double 4 [.double (FP.dadd b0 (FP.dmul ff (FP.f2d f0))), .double (FP.dadd b1 (FP.dmul ff (FP.f2d f1))), .double b2, .double (FP.dadd b3 (FP.dmul ff (FP.f2d f2)))] (.double 0)
set_option maxRecDepth 65536 in
set_option maxHeartbeats 40000000 in
theorem c_add11 (l : Launch) (Z : State) (a0 : Array Value) (hw : ∀ d ∈ tables_1, d.before a0 Z = true) (x td tv tz : Addr) (kd kv kz : ClassId) (b0 b1 b2 b3 ff : UInt64) (f0 : UInt32) (hf0 : Jvm.Free.Fl.NoNaN64 (FP.f2d f0)) (hm0 : Jvm.Free.Fl.NoNaN64 (FP.dmul ff (FP.f2d f0))) (ha0 : Jvm.Free.Fl.NoNaN64 (FP.dadd b0 (FP.dmul ff (FP.f2d f0)))) (f1 : UInt32) (hf1 : Jvm.Free.Fl.NoNaN64 (FP.f2d f1)) (hm1 : Jvm.Free.Fl.NoNaN64 (FP.dmul ff (FP.f2d f1))) (ha1 : Jvm.Free.Fl.NoNaN64 (FP.dadd b1 (FP.dmul ff (FP.f2d f1)))) (f2 : UInt32) (hf2 : Jvm.Free.Fl.NoNaN64 (FP.f2d f2)) (hm2 : Jvm.Free.Fl.NoNaN64 (FP.dmul ff (FP.f2d f2))) (ha2 : Jvm.Free.Fl.NoNaN64 (FP.dadd b3 (FP.dmul ff (FP.f2d f2)))) (h0 : Heap) (E0 : Exa Z h0 x "com/example/intent_search/intentsearch/rank/CategoryVector") (Fd : Fld Z h0 x "com/example/intent_search/intentsearch/rank/CategoryVector" "dimensions" "[I" (.ref td)) (Fv : Fld Z h0 x "com/example/intent_search/intentsearch/rank/CategoryVector" "values" "[F" (.ref tv)) (Vd : Arv Z h0 td kd .int 3 [.int 0, .int 1, .int 3] (.int 0)) (Vv : Arv Z h0 tv kv .float 3 [.float f0, .float f1, .float f2] (.float 0)) (Vz : Arv Z h0 tz kz .double 4 [.double b0, .double b1, .double b2, .double b3] (.double 0)) (hd : td ≠ tz) (hv : tv ≠ tz) (hx : x ≠ tz) : W.MetN l Z (⟨"com/example/intent_search/intentsearch/rank/CategoryVector", "addTo", "([DD)V"⟩ : MethodName) prog_31_method_4_code 5 ((Option.none : Option Jvm.ClassFile.FieldType)) [] ({ frames := 0, cells := 0, slots := 0, locals := 0 } : Room) #[.ref x, .ref tz, .double ff]  h0 (QA11 Z tz kz b0 b1 b2 b3 ff f0 f1 f2 h0) := by
  refine W.MetN.mk (ls0 := #[.val (.ref x), .val (.ref tz), .val (.double ff), .second, .unset]) [tz] (plainFor_of_name pn_com_example_intent_search_intentsearch_rank_CategoryVector) (fun m => by first | (simp [entryFrame, mkF, argsToLocals, Value.category]; done) | rfl) ?_
  intro p e s m below meth c s₁ hml hret hnm hlk P0
  show W.Go p.tables e below _ (s₁.setTop (mkF m 0 #[.val (.ref x), .val (.ref tz), .val (.double ff), .second, .unset] []))
  refine W.g_iconst (pc1 := 1) (v := (0 : Int32)) P0.q d6_0 (by decide) rfl ?_
  refine W.g_istore (pc1 := 3) (ls2 := #[.val (.ref x), .val (.ref tz), .val (.double ff), .second, .val (.int (0 : Int32))]) P0.q d6_1 rfl rfl ?_
  refine W.g_iload (pc1 := 5) P0.q d6_3 rfl rfl ?_
  refine W.g_aloadN (pc1 := 6) P0.q d6_5 rfl rfl rfl ?_
  refine P0.getF (host := "") (pc1 := 9) (Or.inl (wd hw (k := 22) rfl)) Via.refl Fd d6_6 rfl ?_
  intro T193 P193
  refine P193.len (pc1 := 10) Vd d6_9 rfl ?_
  refine W.g_cmpN (pc2 := 13) P193.q d6_10 rfl (by decide) ?_
  refine W.g_aloadN (pc1 := 14) P193.q d6_13 rfl rfl rfl ?_
  refine W.g_aloadN (pc1 := 15) P193.q d6_14 rfl rfl rfl ?_
  refine P193.getF (host := "") (pc1 := 18) (Or.inl (wd hw (k := 22) rfl)) Via.refl Fd d6_15 rfl ?_
  intro T194 P194
  refine W.g_iload (pc1 := 20) P194.q d6_18 rfl rfl ?_
  refine P194.ldI (pc1 := 21) (v := (.int (0 : Int32))) Vd (by decide) (by decide) rfl d6_20 rfl ?_
  refine W.g_dup2 (pc1 := 22) P194.q d6_21 rfl rfl rfl ?_
  refine P194.ldD (pc1 := 23) (v := (.double b0)) Vz (by decide) (by decide) rfl d6_22 rfl ?_
  refine W.g_dloadN (pc1 := 24) P194.q d6_23 rfl rfl ?_
  refine W.g_aloadN (pc1 := 25) P194.q d6_24 rfl rfl rfl ?_
  refine P194.getF (host := "") (pc1 := 28) (Or.inl (wd hw (k := 24) rfl)) Via.refl Fv d6_25 rfl ?_
  intro T195 P195
  refine W.g_iload (pc1 := 30) P195.q d6_28 rfl rfl ?_
  refine P195.ldF (pc1 := 31) (v := (.float f0)) Vv (by decide) (by decide) rfl d6_30 rfl ?_
  refine W.g_f2d (pc1 := 32) P195.q d6_31 hf0 rfl ?_
  refine W.g_dmul (pc1 := 33) P195.q d6_32 hm0 rfl ?_
  refine W.g_dadd (pc1 := 34) P195.q d6_33 ha0 rfl ?_
  refine P195.stD (pc1 := 35) (i := 0) Vz (by decide) (by decide) (Nat.le_of_ble_eq_true rfl) rfl (Or.inl (List.mem_singleton.mpr rfl)) (Safe.arv P195.al Vz (by decide)) d6_34 rfl ?_
  intro T196 h196 P196 W196 V196
  have Fd196 := Fd.other W196 (Or.inl hx)
  have Fv196 := Fv.other W196 (Or.inl hx)
  have Vd196 := Vd.other W196 hd
  have Vv196 := Vv.other W196 hv
  refine W.g_iinc (pc1 := 38) (ls2 := #[.val (.ref x), .val (.ref tz), .val (.double ff), .second, .val (.int ((0 : Int32) + Int32.ofInt 1))]) P196.q d6_35 rfl rfl rfl ?_
  refine W.g_goto (pc1 := 3) P196.q d6_38 (by decide) rfl ?_
  refine W.g_iload (pc1 := 5) P196.q d6_3 rfl rfl ?_
  refine W.g_aloadN (pc1 := 6) P196.q d6_5 rfl rfl rfl ?_
  refine P196.getF (host := "") (pc1 := 9) (Or.inl (wd hw (k := 22) rfl)) Via.refl Fd196 d6_6 rfl ?_
  intro T197 P197
  refine P197.len (pc1 := 10) Vd196 d6_9 rfl ?_
  show W.Go p.tables e below _ (T197.setTop (mkF m 10 #[.val (.ref x), .val (.ref tz), .val (.double ff), .second, .val (.int (1 : Int32))] [(.int (3 : Int32)), (.int (1 : Int32))]))
  refine W.g_cmpN (pc2 := 13) P197.q d6_10 rfl (by decide) ?_
  refine W.g_aloadN (pc1 := 14) P197.q d6_13 rfl rfl rfl ?_
  refine W.g_aloadN (pc1 := 15) P197.q d6_14 rfl rfl rfl ?_
  refine P197.getF (host := "") (pc1 := 18) (Or.inl (wd hw (k := 22) rfl)) Via.refl Fd196 d6_15 rfl ?_
  intro T198 P198
  refine W.g_iload (pc1 := 20) P198.q d6_18 rfl rfl ?_
  refine P198.ldI (pc1 := 21) (v := (.int (1 : Int32))) Vd196 (by decide) (by decide) rfl d6_20 rfl ?_
  refine W.g_dup2 (pc1 := 22) P198.q d6_21 rfl rfl rfl ?_
  refine P198.ldD (pc1 := 23) (v := (.double b1)) V196 (by decide) (by decide) rfl d6_22 rfl ?_
  refine W.g_dloadN (pc1 := 24) P198.q d6_23 rfl rfl ?_
  refine W.g_aloadN (pc1 := 25) P198.q d6_24 rfl rfl rfl ?_
  refine P198.getF (host := "") (pc1 := 28) (Or.inl (wd hw (k := 24) rfl)) Via.refl Fv196 d6_25 rfl ?_
  intro T199 P199
  refine W.g_iload (pc1 := 30) P199.q d6_28 rfl rfl ?_
  refine P199.ldF (pc1 := 31) (v := (.float f1)) Vv196 (by decide) (by decide) rfl d6_30 rfl ?_
  refine W.g_f2d (pc1 := 32) P199.q d6_31 hf1 rfl ?_
  refine W.g_dmul (pc1 := 33) P199.q d6_32 hm1 rfl ?_
  refine W.g_dadd (pc1 := 34) P199.q d6_33 ha1 rfl ?_
  refine P199.stD (pc1 := 35) (i := 1) V196 (by decide) (by decide) (Nat.le_of_ble_eq_true rfl) rfl (Or.inl (List.mem_singleton.mpr rfl)) (Safe.arv P199.al V196 (by decide)) d6_34 rfl ?_
  intro T200 h200 P200 W200 V200
  have Fd200 := Fd196.other W200 (Or.inl hx)
  have Fv200 := Fv196.other W200 (Or.inl hx)
  have Vd200 := Vd196.other W200 hd
  have Vv200 := Vv196.other W200 hv
  refine W.g_iinc (pc1 := 38) (ls2 := #[.val (.ref x), .val (.ref tz), .val (.double ff), .second, .val (.int ((1 : Int32) + Int32.ofInt 1))]) P200.q d6_35 rfl rfl rfl ?_
  refine W.g_goto (pc1 := 3) P200.q d6_38 (by decide) rfl ?_
  refine W.g_iload (pc1 := 5) P200.q d6_3 rfl rfl ?_
  refine W.g_aloadN (pc1 := 6) P200.q d6_5 rfl rfl rfl ?_
  refine P200.getF (host := "") (pc1 := 9) (Or.inl (wd hw (k := 22) rfl)) Via.refl Fd200 d6_6 rfl ?_
  intro T201 P201
  refine P201.len (pc1 := 10) Vd200 d6_9 rfl ?_
  show W.Go p.tables e below _ (T201.setTop (mkF m 10 #[.val (.ref x), .val (.ref tz), .val (.double ff), .second, .val (.int (2 : Int32))] [(.int (3 : Int32)), (.int (2 : Int32))]))
  refine W.g_cmpN (pc2 := 13) P201.q d6_10 rfl (by decide) ?_
  refine W.g_aloadN (pc1 := 14) P201.q d6_13 rfl rfl rfl ?_
  refine W.g_aloadN (pc1 := 15) P201.q d6_14 rfl rfl rfl ?_
  refine P201.getF (host := "") (pc1 := 18) (Or.inl (wd hw (k := 22) rfl)) Via.refl Fd200 d6_15 rfl ?_
  intro T202 P202
  refine W.g_iload (pc1 := 20) P202.q d6_18 rfl rfl ?_
  refine P202.ldI (pc1 := 21) (v := (.int (3 : Int32))) Vd200 (by decide) (by decide) rfl d6_20 rfl ?_
  refine W.g_dup2 (pc1 := 22) P202.q d6_21 rfl rfl rfl ?_
  refine P202.ldD (pc1 := 23) (v := (.double b3)) V200 (by decide) (by decide) rfl d6_22 rfl ?_
  refine W.g_dloadN (pc1 := 24) P202.q d6_23 rfl rfl ?_
  refine W.g_aloadN (pc1 := 25) P202.q d6_24 rfl rfl rfl ?_
  refine P202.getF (host := "") (pc1 := 28) (Or.inl (wd hw (k := 24) rfl)) Via.refl Fv200 d6_25 rfl ?_
  intro T203 P203
  refine W.g_iload (pc1 := 30) P203.q d6_28 rfl rfl ?_
  refine P203.ldF (pc1 := 31) (v := (.float f2)) Vv200 (by decide) (by decide) rfl d6_30 rfl ?_
  refine W.g_f2d (pc1 := 32) P203.q d6_31 hf2 rfl ?_
  refine W.g_dmul (pc1 := 33) P203.q d6_32 hm2 rfl ?_
  refine W.g_dadd (pc1 := 34) P203.q d6_33 ha2 rfl ?_
  refine P203.stD (pc1 := 35) (i := 3) V200 (by decide) (by decide) (Nat.le_of_ble_eq_true rfl) rfl (Or.inl (List.mem_singleton.mpr rfl)) (Safe.arv P203.al V200 (by decide)) d6_34 rfl ?_
  intro T204 h204 P204 W204 V204
  have Fd204 := Fd200.other W204 (Or.inl hx)
  have Fv204 := Fv200.other W204 (Or.inl hx)
  have Vd204 := Vd200.other W204 hd
  have Vv204 := Vv200.other W204 hv
  refine W.g_iinc (pc1 := 38) (ls2 := #[.val (.ref x), .val (.ref tz), .val (.double ff), .second, .val (.int ((2 : Int32) + Int32.ofInt 1))]) P204.q d6_35 rfl rfl rfl ?_
  refine W.g_goto (pc1 := 3) P204.q d6_38 (by decide) rfl ?_
  refine W.g_iload (pc1 := 5) P204.q d6_3 rfl rfl ?_
  refine W.g_aloadN (pc1 := 6) P204.q d6_5 rfl rfl rfl ?_
  refine P204.getF (host := "") (pc1 := 9) (Or.inl (wd hw (k := 22) rfl)) Via.refl Fd204 d6_6 rfl ?_
  intro T205 P205
  refine P205.len (pc1 := 10) Vd204 d6_9 rfl ?_
  show W.Go p.tables e below _ (T205.setTop (mkF m 10 #[.val (.ref x), .val (.ref tz), .val (.double ff), .second, .val (.int (3 : Int32))] [(.int (3 : Int32)), (.int (3 : Int32))]))
  refine W.g_cmpY (pc1 := 41) P205.q d6_10 (by decide) rfl (by decide) ?_
  exact P205.retN hlk hret d6_41 (by decide) (by decide) ⟨rfl, P205.fr, P205.keep, V204⟩
def QA12 (Z : State) (tz : Addr) (kz : ClassId) (b0 b1 b2 b3 ff : UInt64) (f0 : UInt32) (f1 : UInt32) (h0 : Heap) (v : Option Value) (h : Heap) (L : List Loc) : Prop := v = none ∧ W.Frw [tz] h0.size L ∧ Keep h0 h [tz] ∧ Arv Z h tz kz .double 4 [.double b0, .double b1, .double (FP.dadd b2 (FP.dmul ff (FP.f2d f0))), .double (FP.dadd b3 (FP.dmul ff (FP.f2d f1)))] (.double 0)
set_option maxRecDepth 65536 in
set_option maxHeartbeats 40000000 in
theorem c_add12 (l : Launch) (Z : State) (a0 : Array Value) (hw : ∀ d ∈ tables_1, d.before a0 Z = true) (x td tv tz : Addr) (kd kv kz : ClassId) (b0 b1 b2 b3 ff : UInt64) (f0 : UInt32) (hf0 : Jvm.Free.Fl.NoNaN64 (FP.f2d f0)) (hm0 : Jvm.Free.Fl.NoNaN64 (FP.dmul ff (FP.f2d f0))) (ha0 : Jvm.Free.Fl.NoNaN64 (FP.dadd b2 (FP.dmul ff (FP.f2d f0)))) (f1 : UInt32) (hf1 : Jvm.Free.Fl.NoNaN64 (FP.f2d f1)) (hm1 : Jvm.Free.Fl.NoNaN64 (FP.dmul ff (FP.f2d f1))) (ha1 : Jvm.Free.Fl.NoNaN64 (FP.dadd b3 (FP.dmul ff (FP.f2d f1)))) (h0 : Heap) (E0 : Exa Z h0 x "com/example/intent_search/intentsearch/rank/CategoryVector") (Fd : Fld Z h0 x "com/example/intent_search/intentsearch/rank/CategoryVector" "dimensions" "[I" (.ref td)) (Fv : Fld Z h0 x "com/example/intent_search/intentsearch/rank/CategoryVector" "values" "[F" (.ref tv)) (Vd : Arv Z h0 td kd .int 2 [.int 2, .int 3] (.int 0)) (Vv : Arv Z h0 tv kv .float 2 [.float f0, .float f1] (.float 0)) (Vz : Arv Z h0 tz kz .double 4 [.double b0, .double b1, .double b2, .double b3] (.double 0)) (hd : td ≠ tz) (hv : tv ≠ tz) (hx : x ≠ tz) : W.MetN l Z (⟨"com/example/intent_search/intentsearch/rank/CategoryVector", "addTo", "([DD)V"⟩ : MethodName) prog_31_method_4_code 5 ((Option.none : Option Jvm.ClassFile.FieldType)) [] ({ frames := 0, cells := 0, slots := 0, locals := 0 } : Room) #[.ref x, .ref tz, .double ff]  h0 (QA12 Z tz kz b0 b1 b2 b3 ff f0 f1 h0) := by
  refine W.MetN.mk (ls0 := #[.val (.ref x), .val (.ref tz), .val (.double ff), .second, .unset]) [tz] (plainFor_of_name pn_com_example_intent_search_intentsearch_rank_CategoryVector) (fun m => by first | (simp [entryFrame, mkF, argsToLocals, Value.category]; done) | rfl) ?_
  intro p e s m below meth c s₁ hml hret hnm hlk P0
  show W.Go p.tables e below _ (s₁.setTop (mkF m 0 #[.val (.ref x), .val (.ref tz), .val (.double ff), .second, .unset] []))
  refine W.g_iconst (pc1 := 1) (v := (0 : Int32)) P0.q d6_0 (by decide) rfl ?_
  refine W.g_istore (pc1 := 3) (ls2 := #[.val (.ref x), .val (.ref tz), .val (.double ff), .second, .val (.int (0 : Int32))]) P0.q d6_1 rfl rfl ?_
  refine W.g_iload (pc1 := 5) P0.q d6_3 rfl rfl ?_
  refine W.g_aloadN (pc1 := 6) P0.q d6_5 rfl rfl rfl ?_
  refine P0.getF (host := "") (pc1 := 9) (Or.inl (wd hw (k := 22) rfl)) Via.refl Fd d6_6 rfl ?_
  intro T206 P206
  refine P206.len (pc1 := 10) Vd d6_9 rfl ?_
  refine W.g_cmpN (pc2 := 13) P206.q d6_10 rfl (by decide) ?_
  refine W.g_aloadN (pc1 := 14) P206.q d6_13 rfl rfl rfl ?_
  refine W.g_aloadN (pc1 := 15) P206.q d6_14 rfl rfl rfl ?_
  refine P206.getF (host := "") (pc1 := 18) (Or.inl (wd hw (k := 22) rfl)) Via.refl Fd d6_15 rfl ?_
  intro T207 P207
  refine W.g_iload (pc1 := 20) P207.q d6_18 rfl rfl ?_
  refine P207.ldI (pc1 := 21) (v := (.int (2 : Int32))) Vd (by decide) (by decide) rfl d6_20 rfl ?_
  refine W.g_dup2 (pc1 := 22) P207.q d6_21 rfl rfl rfl ?_
  refine P207.ldD (pc1 := 23) (v := (.double b2)) Vz (by decide) (by decide) rfl d6_22 rfl ?_
  refine W.g_dloadN (pc1 := 24) P207.q d6_23 rfl rfl ?_
  refine W.g_aloadN (pc1 := 25) P207.q d6_24 rfl rfl rfl ?_
  refine P207.getF (host := "") (pc1 := 28) (Or.inl (wd hw (k := 24) rfl)) Via.refl Fv d6_25 rfl ?_
  intro T208 P208
  refine W.g_iload (pc1 := 30) P208.q d6_28 rfl rfl ?_
  refine P208.ldF (pc1 := 31) (v := (.float f0)) Vv (by decide) (by decide) rfl d6_30 rfl ?_
  refine W.g_f2d (pc1 := 32) P208.q d6_31 hf0 rfl ?_
  refine W.g_dmul (pc1 := 33) P208.q d6_32 hm0 rfl ?_
  refine W.g_dadd (pc1 := 34) P208.q d6_33 ha0 rfl ?_
  refine P208.stD (pc1 := 35) (i := 2) Vz (by decide) (by decide) (Nat.le_of_ble_eq_true rfl) rfl (Or.inl (List.mem_singleton.mpr rfl)) (Safe.arv P208.al Vz (by decide)) d6_34 rfl ?_
  intro T209 h209 P209 W209 V209
  have Fd209 := Fd.other W209 (Or.inl hx)
  have Fv209 := Fv.other W209 (Or.inl hx)
  have Vd209 := Vd.other W209 hd
  have Vv209 := Vv.other W209 hv
  refine W.g_iinc (pc1 := 38) (ls2 := #[.val (.ref x), .val (.ref tz), .val (.double ff), .second, .val (.int ((0 : Int32) + Int32.ofInt 1))]) P209.q d6_35 rfl rfl rfl ?_
  refine W.g_goto (pc1 := 3) P209.q d6_38 (by decide) rfl ?_
  refine W.g_iload (pc1 := 5) P209.q d6_3 rfl rfl ?_
  refine W.g_aloadN (pc1 := 6) P209.q d6_5 rfl rfl rfl ?_
  refine P209.getF (host := "") (pc1 := 9) (Or.inl (wd hw (k := 22) rfl)) Via.refl Fd209 d6_6 rfl ?_
  intro T210 P210
  refine P210.len (pc1 := 10) Vd209 d6_9 rfl ?_
  show W.Go p.tables e below _ (T210.setTop (mkF m 10 #[.val (.ref x), .val (.ref tz), .val (.double ff), .second, .val (.int (1 : Int32))] [(.int (2 : Int32)), (.int (1 : Int32))]))
  refine W.g_cmpN (pc2 := 13) P210.q d6_10 rfl (by decide) ?_
  refine W.g_aloadN (pc1 := 14) P210.q d6_13 rfl rfl rfl ?_
  refine W.g_aloadN (pc1 := 15) P210.q d6_14 rfl rfl rfl ?_
  refine P210.getF (host := "") (pc1 := 18) (Or.inl (wd hw (k := 22) rfl)) Via.refl Fd209 d6_15 rfl ?_
  intro T211 P211
  refine W.g_iload (pc1 := 20) P211.q d6_18 rfl rfl ?_
  refine P211.ldI (pc1 := 21) (v := (.int (3 : Int32))) Vd209 (by decide) (by decide) rfl d6_20 rfl ?_
  refine W.g_dup2 (pc1 := 22) P211.q d6_21 rfl rfl rfl ?_
  refine P211.ldD (pc1 := 23) (v := (.double b3)) V209 (by decide) (by decide) rfl d6_22 rfl ?_
  refine W.g_dloadN (pc1 := 24) P211.q d6_23 rfl rfl ?_
  refine W.g_aloadN (pc1 := 25) P211.q d6_24 rfl rfl rfl ?_
  refine P211.getF (host := "") (pc1 := 28) (Or.inl (wd hw (k := 24) rfl)) Via.refl Fv209 d6_25 rfl ?_
  intro T212 P212
  refine W.g_iload (pc1 := 30) P212.q d6_28 rfl rfl ?_
  refine P212.ldF (pc1 := 31) (v := (.float f1)) Vv209 (by decide) (by decide) rfl d6_30 rfl ?_
  refine W.g_f2d (pc1 := 32) P212.q d6_31 hf1 rfl ?_
  refine W.g_dmul (pc1 := 33) P212.q d6_32 hm1 rfl ?_
  refine W.g_dadd (pc1 := 34) P212.q d6_33 ha1 rfl ?_
  refine P212.stD (pc1 := 35) (i := 3) V209 (by decide) (by decide) (Nat.le_of_ble_eq_true rfl) rfl (Or.inl (List.mem_singleton.mpr rfl)) (Safe.arv P212.al V209 (by decide)) d6_34 rfl ?_
  intro T213 h213 P213 W213 V213
  have Fd213 := Fd209.other W213 (Or.inl hx)
  have Fv213 := Fv209.other W213 (Or.inl hx)
  have Vd213 := Vd209.other W213 hd
  have Vv213 := Vv209.other W213 hv
  refine W.g_iinc (pc1 := 38) (ls2 := #[.val (.ref x), .val (.ref tz), .val (.double ff), .second, .val (.int ((1 : Int32) + Int32.ofInt 1))]) P213.q d6_35 rfl rfl rfl ?_
  refine W.g_goto (pc1 := 3) P213.q d6_38 (by decide) rfl ?_
  refine W.g_iload (pc1 := 5) P213.q d6_3 rfl rfl ?_
  refine W.g_aloadN (pc1 := 6) P213.q d6_5 rfl rfl rfl ?_
  refine P213.getF (host := "") (pc1 := 9) (Or.inl (wd hw (k := 22) rfl)) Via.refl Fd213 d6_6 rfl ?_
  intro T214 P214
  refine P214.len (pc1 := 10) Vd213 d6_9 rfl ?_
  show W.Go p.tables e below _ (T214.setTop (mkF m 10 #[.val (.ref x), .val (.ref tz), .val (.double ff), .second, .val (.int (2 : Int32))] [(.int (2 : Int32)), (.int (2 : Int32))]))
  refine W.g_cmpY (pc1 := 41) P214.q d6_10 (by decide) rfl (by decide) ?_
  exact P214.retN hlk hret d6_41 (by decide) (by decide) ⟨rfl, P214.fr, P214.keep, V213⟩
def QA13 (Z : State) (tz : Addr) (kz : ClassId) (b0 b1 b2 b3 ff : UInt64) (f0 : UInt32) (f1 : UInt32) (f2 : UInt32) (h0 : Heap) (v : Option Value) (h : Heap) (L : List Loc) : Prop := v = none ∧ W.Frw [tz] h0.size L ∧ Keep h0 h [tz] ∧ Arv Z h tz kz .double 4 [.double (FP.dadd b0 (FP.dmul ff (FP.f2d f0))), .double b1, .double (FP.dadd b2 (FP.dmul ff (FP.f2d f1))), .double (FP.dadd b3 (FP.dmul ff (FP.f2d f2)))] (.double 0)
set_option maxRecDepth 65536 in
set_option maxHeartbeats 40000000 in
theorem c_add13 (l : Launch) (Z : State) (a0 : Array Value) (hw : ∀ d ∈ tables_1, d.before a0 Z = true) (x td tv tz : Addr) (kd kv kz : ClassId) (b0 b1 b2 b3 ff : UInt64) (f0 : UInt32) (hf0 : Jvm.Free.Fl.NoNaN64 (FP.f2d f0)) (hm0 : Jvm.Free.Fl.NoNaN64 (FP.dmul ff (FP.f2d f0))) (ha0 : Jvm.Free.Fl.NoNaN64 (FP.dadd b0 (FP.dmul ff (FP.f2d f0)))) (f1 : UInt32) (hf1 : Jvm.Free.Fl.NoNaN64 (FP.f2d f1)) (hm1 : Jvm.Free.Fl.NoNaN64 (FP.dmul ff (FP.f2d f1))) (ha1 : Jvm.Free.Fl.NoNaN64 (FP.dadd b2 (FP.dmul ff (FP.f2d f1)))) (f2 : UInt32) (hf2 : Jvm.Free.Fl.NoNaN64 (FP.f2d f2)) (hm2 : Jvm.Free.Fl.NoNaN64 (FP.dmul ff (FP.f2d f2))) (ha2 : Jvm.Free.Fl.NoNaN64 (FP.dadd b3 (FP.dmul ff (FP.f2d f2)))) (h0 : Heap) (E0 : Exa Z h0 x "com/example/intent_search/intentsearch/rank/CategoryVector") (Fd : Fld Z h0 x "com/example/intent_search/intentsearch/rank/CategoryVector" "dimensions" "[I" (.ref td)) (Fv : Fld Z h0 x "com/example/intent_search/intentsearch/rank/CategoryVector" "values" "[F" (.ref tv)) (Vd : Arv Z h0 td kd .int 3 [.int 0, .int 2, .int 3] (.int 0)) (Vv : Arv Z h0 tv kv .float 3 [.float f0, .float f1, .float f2] (.float 0)) (Vz : Arv Z h0 tz kz .double 4 [.double b0, .double b1, .double b2, .double b3] (.double 0)) (hd : td ≠ tz) (hv : tv ≠ tz) (hx : x ≠ tz) : W.MetN l Z (⟨"com/example/intent_search/intentsearch/rank/CategoryVector", "addTo", "([DD)V"⟩ : MethodName) prog_31_method_4_code 5 ((Option.none : Option Jvm.ClassFile.FieldType)) [] ({ frames := 0, cells := 0, slots := 0, locals := 0 } : Room) #[.ref x, .ref tz, .double ff]  h0 (QA13 Z tz kz b0 b1 b2 b3 ff f0 f1 f2 h0) := by
  refine W.MetN.mk (ls0 := #[.val (.ref x), .val (.ref tz), .val (.double ff), .second, .unset]) [tz] (plainFor_of_name pn_com_example_intent_search_intentsearch_rank_CategoryVector) (fun m => by first | (simp [entryFrame, mkF, argsToLocals, Value.category]; done) | rfl) ?_
  intro p e s m below meth c s₁ hml hret hnm hlk P0
  show W.Go p.tables e below _ (s₁.setTop (mkF m 0 #[.val (.ref x), .val (.ref tz), .val (.double ff), .second, .unset] []))
  refine W.g_iconst (pc1 := 1) (v := (0 : Int32)) P0.q d6_0 (by decide) rfl ?_
  refine W.g_istore (pc1 := 3) (ls2 := #[.val (.ref x), .val (.ref tz), .val (.double ff), .second, .val (.int (0 : Int32))]) P0.q d6_1 rfl rfl ?_
  refine W.g_iload (pc1 := 5) P0.q d6_3 rfl rfl ?_
  refine W.g_aloadN (pc1 := 6) P0.q d6_5 rfl rfl rfl ?_
  refine P0.getF (host := "") (pc1 := 9) (Or.inl (wd hw (k := 22) rfl)) Via.refl Fd d6_6 rfl ?_
  intro T215 P215
  refine P215.len (pc1 := 10) Vd d6_9 rfl ?_
  refine W.g_cmpN (pc2 := 13) P215.q d6_10 rfl (by decide) ?_
  refine W.g_aloadN (pc1 := 14) P215.q d6_13 rfl rfl rfl ?_
  refine W.g_aloadN (pc1 := 15) P215.q d6_14 rfl rfl rfl ?_
  refine P215.getF (host := "") (pc1 := 18) (Or.inl (wd hw (k := 22) rfl)) Via.refl Fd d6_15 rfl ?_
  intro T216 P216
  refine W.g_iload (pc1 := 20) P216.q d6_18 rfl rfl ?_
  refine P216.ldI (pc1 := 21) (v := (.int (0 : Int32))) Vd (by decide) (by decide) rfl d6_20 rfl ?_
  refine W.g_dup2 (pc1 := 22) P216.q d6_21 rfl rfl rfl ?_
  refine P216.ldD (pc1 := 23) (v := (.double b0)) Vz (by decide) (by decide) rfl d6_22 rfl ?_
  refine W.g_dloadN (pc1 := 24) P216.q d6_23 rfl rfl ?_
  refine W.g_aloadN (pc1 := 25) P216.q d6_24 rfl rfl rfl ?_
  refine P216.getF (host := "") (pc1 := 28) (Or.inl (wd hw (k := 24) rfl)) Via.refl Fv d6_25 rfl ?_
  intro T217 P217
  refine W.g_iload (pc1 := 30) P217.q d6_28 rfl rfl ?_
  refine P217.ldF (pc1 := 31) (v := (.float f0)) Vv (by decide) (by decide) rfl d6_30 rfl ?_
  refine W.g_f2d (pc1 := 32) P217.q d6_31 hf0 rfl ?_
  refine W.g_dmul (pc1 := 33) P217.q d6_32 hm0 rfl ?_
  refine W.g_dadd (pc1 := 34) P217.q d6_33 ha0 rfl ?_
  refine P217.stD (pc1 := 35) (i := 0) Vz (by decide) (by decide) (Nat.le_of_ble_eq_true rfl) rfl (Or.inl (List.mem_singleton.mpr rfl)) (Safe.arv P217.al Vz (by decide)) d6_34 rfl ?_
  intro T218 h218 P218 W218 V218
  have Fd218 := Fd.other W218 (Or.inl hx)
  have Fv218 := Fv.other W218 (Or.inl hx)
  have Vd218 := Vd.other W218 hd
  have Vv218 := Vv.other W218 hv
  refine W.g_iinc (pc1 := 38) (ls2 := #[.val (.ref x), .val (.ref tz), .val (.double ff), .second, .val (.int ((0 : Int32) + Int32.ofInt 1))]) P218.q d6_35 rfl rfl rfl ?_
  refine W.g_goto (pc1 := 3) P218.q d6_38 (by decide) rfl ?_
  refine W.g_iload (pc1 := 5) P218.q d6_3 rfl rfl ?_
  refine W.g_aloadN (pc1 := 6) P218.q d6_5 rfl rfl rfl ?_
  refine P218.getF (host := "") (pc1 := 9) (Or.inl (wd hw (k := 22) rfl)) Via.refl Fd218 d6_6 rfl ?_
  intro T219 P219
  refine P219.len (pc1 := 10) Vd218 d6_9 rfl ?_
  show W.Go p.tables e below _ (T219.setTop (mkF m 10 #[.val (.ref x), .val (.ref tz), .val (.double ff), .second, .val (.int (1 : Int32))] [(.int (3 : Int32)), (.int (1 : Int32))]))
  refine W.g_cmpN (pc2 := 13) P219.q d6_10 rfl (by decide) ?_
  refine W.g_aloadN (pc1 := 14) P219.q d6_13 rfl rfl rfl ?_
  refine W.g_aloadN (pc1 := 15) P219.q d6_14 rfl rfl rfl ?_
  refine P219.getF (host := "") (pc1 := 18) (Or.inl (wd hw (k := 22) rfl)) Via.refl Fd218 d6_15 rfl ?_
  intro T220 P220
  refine W.g_iload (pc1 := 20) P220.q d6_18 rfl rfl ?_
  refine P220.ldI (pc1 := 21) (v := (.int (2 : Int32))) Vd218 (by decide) (by decide) rfl d6_20 rfl ?_
  refine W.g_dup2 (pc1 := 22) P220.q d6_21 rfl rfl rfl ?_
  refine P220.ldD (pc1 := 23) (v := (.double b2)) V218 (by decide) (by decide) rfl d6_22 rfl ?_
  refine W.g_dloadN (pc1 := 24) P220.q d6_23 rfl rfl ?_
  refine W.g_aloadN (pc1 := 25) P220.q d6_24 rfl rfl rfl ?_
  refine P220.getF (host := "") (pc1 := 28) (Or.inl (wd hw (k := 24) rfl)) Via.refl Fv218 d6_25 rfl ?_
  intro T221 P221
  refine W.g_iload (pc1 := 30) P221.q d6_28 rfl rfl ?_
  refine P221.ldF (pc1 := 31) (v := (.float f1)) Vv218 (by decide) (by decide) rfl d6_30 rfl ?_
  refine W.g_f2d (pc1 := 32) P221.q d6_31 hf1 rfl ?_
  refine W.g_dmul (pc1 := 33) P221.q d6_32 hm1 rfl ?_
  refine W.g_dadd (pc1 := 34) P221.q d6_33 ha1 rfl ?_
  refine P221.stD (pc1 := 35) (i := 2) V218 (by decide) (by decide) (Nat.le_of_ble_eq_true rfl) rfl (Or.inl (List.mem_singleton.mpr rfl)) (Safe.arv P221.al V218 (by decide)) d6_34 rfl ?_
  intro T222 h222 P222 W222 V222
  have Fd222 := Fd218.other W222 (Or.inl hx)
  have Fv222 := Fv218.other W222 (Or.inl hx)
  have Vd222 := Vd218.other W222 hd
  have Vv222 := Vv218.other W222 hv
  refine W.g_iinc (pc1 := 38) (ls2 := #[.val (.ref x), .val (.ref tz), .val (.double ff), .second, .val (.int ((1 : Int32) + Int32.ofInt 1))]) P222.q d6_35 rfl rfl rfl ?_
  refine W.g_goto (pc1 := 3) P222.q d6_38 (by decide) rfl ?_
  refine W.g_iload (pc1 := 5) P222.q d6_3 rfl rfl ?_
  refine W.g_aloadN (pc1 := 6) P222.q d6_5 rfl rfl rfl ?_
  refine P222.getF (host := "") (pc1 := 9) (Or.inl (wd hw (k := 22) rfl)) Via.refl Fd222 d6_6 rfl ?_
  intro T223 P223
  refine P223.len (pc1 := 10) Vd222 d6_9 rfl ?_
  show W.Go p.tables e below _ (T223.setTop (mkF m 10 #[.val (.ref x), .val (.ref tz), .val (.double ff), .second, .val (.int (2 : Int32))] [(.int (3 : Int32)), (.int (2 : Int32))]))
  refine W.g_cmpN (pc2 := 13) P223.q d6_10 rfl (by decide) ?_
  refine W.g_aloadN (pc1 := 14) P223.q d6_13 rfl rfl rfl ?_
  refine W.g_aloadN (pc1 := 15) P223.q d6_14 rfl rfl rfl ?_
  refine P223.getF (host := "") (pc1 := 18) (Or.inl (wd hw (k := 22) rfl)) Via.refl Fd222 d6_15 rfl ?_
  intro T224 P224
  refine W.g_iload (pc1 := 20) P224.q d6_18 rfl rfl ?_
  refine P224.ldI (pc1 := 21) (v := (.int (3 : Int32))) Vd222 (by decide) (by decide) rfl d6_20 rfl ?_
  refine W.g_dup2 (pc1 := 22) P224.q d6_21 rfl rfl rfl ?_
  refine P224.ldD (pc1 := 23) (v := (.double b3)) V222 (by decide) (by decide) rfl d6_22 rfl ?_
  refine W.g_dloadN (pc1 := 24) P224.q d6_23 rfl rfl ?_
  refine W.g_aloadN (pc1 := 25) P224.q d6_24 rfl rfl rfl ?_
  refine P224.getF (host := "") (pc1 := 28) (Or.inl (wd hw (k := 24) rfl)) Via.refl Fv222 d6_25 rfl ?_
  intro T225 P225
  refine W.g_iload (pc1 := 30) P225.q d6_28 rfl rfl ?_
  refine P225.ldF (pc1 := 31) (v := (.float f2)) Vv222 (by decide) (by decide) rfl d6_30 rfl ?_
  refine W.g_f2d (pc1 := 32) P225.q d6_31 hf2 rfl ?_
  refine W.g_dmul (pc1 := 33) P225.q d6_32 hm2 rfl ?_
  refine W.g_dadd (pc1 := 34) P225.q d6_33 ha2 rfl ?_
  refine P225.stD (pc1 := 35) (i := 3) V222 (by decide) (by decide) (Nat.le_of_ble_eq_true rfl) rfl (Or.inl (List.mem_singleton.mpr rfl)) (Safe.arv P225.al V222 (by decide)) d6_34 rfl ?_
  intro T226 h226 P226 W226 V226
  have Fd226 := Fd222.other W226 (Or.inl hx)
  have Fv226 := Fv222.other W226 (Or.inl hx)
  have Vd226 := Vd222.other W226 hd
  have Vv226 := Vv222.other W226 hv
  refine W.g_iinc (pc1 := 38) (ls2 := #[.val (.ref x), .val (.ref tz), .val (.double ff), .second, .val (.int ((2 : Int32) + Int32.ofInt 1))]) P226.q d6_35 rfl rfl rfl ?_
  refine W.g_goto (pc1 := 3) P226.q d6_38 (by decide) rfl ?_
  refine W.g_iload (pc1 := 5) P226.q d6_3 rfl rfl ?_
  refine W.g_aloadN (pc1 := 6) P226.q d6_5 rfl rfl rfl ?_
  refine P226.getF (host := "") (pc1 := 9) (Or.inl (wd hw (k := 22) rfl)) Via.refl Fd226 d6_6 rfl ?_
  intro T227 P227
  refine P227.len (pc1 := 10) Vd226 d6_9 rfl ?_
  show W.Go p.tables e below _ (T227.setTop (mkF m 10 #[.val (.ref x), .val (.ref tz), .val (.double ff), .second, .val (.int (3 : Int32))] [(.int (3 : Int32)), (.int (3 : Int32))]))
  refine W.g_cmpY (pc1 := 41) P227.q d6_10 (by decide) rfl (by decide) ?_
  exact P227.retN hlk hret d6_41 (by decide) (by decide) ⟨rfl, P227.fr, P227.keep, V226⟩
def QA14 (Z : State) (tz : Addr) (kz : ClassId) (b0 b1 b2 b3 ff : UInt64) (f0 : UInt32) (f1 : UInt32) (f2 : UInt32) (h0 : Heap) (v : Option Value) (h : Heap) (L : List Loc) : Prop := v = none ∧ W.Frw [tz] h0.size L ∧ Keep h0 h [tz] ∧ Arv Z h tz kz .double 4 [.double b0, .double (FP.dadd b1 (FP.dmul ff (FP.f2d f0))), .double (FP.dadd b2 (FP.dmul ff (FP.f2d f1))), .double (FP.dadd b3 (FP.dmul ff (FP.f2d f2)))] (.double 0)
set_option maxRecDepth 65536 in
set_option maxHeartbeats 40000000 in
theorem c_add14 (l : Launch) (Z : State) (a0 : Array Value) (hw : ∀ d ∈ tables_1, d.before a0 Z = true) (x td tv tz : Addr) (kd kv kz : ClassId) (b0 b1 b2 b3 ff : UInt64) (f0 : UInt32) (hf0 : Jvm.Free.Fl.NoNaN64 (FP.f2d f0)) (hm0 : Jvm.Free.Fl.NoNaN64 (FP.dmul ff (FP.f2d f0))) (ha0 : Jvm.Free.Fl.NoNaN64 (FP.dadd b1 (FP.dmul ff (FP.f2d f0)))) (f1 : UInt32) (hf1 : Jvm.Free.Fl.NoNaN64 (FP.f2d f1)) (hm1 : Jvm.Free.Fl.NoNaN64 (FP.dmul ff (FP.f2d f1))) (ha1 : Jvm.Free.Fl.NoNaN64 (FP.dadd b2 (FP.dmul ff (FP.f2d f1)))) (f2 : UInt32) (hf2 : Jvm.Free.Fl.NoNaN64 (FP.f2d f2)) (hm2 : Jvm.Free.Fl.NoNaN64 (FP.dmul ff (FP.f2d f2))) (ha2 : Jvm.Free.Fl.NoNaN64 (FP.dadd b3 (FP.dmul ff (FP.f2d f2)))) (h0 : Heap) (E0 : Exa Z h0 x "com/example/intent_search/intentsearch/rank/CategoryVector") (Fd : Fld Z h0 x "com/example/intent_search/intentsearch/rank/CategoryVector" "dimensions" "[I" (.ref td)) (Fv : Fld Z h0 x "com/example/intent_search/intentsearch/rank/CategoryVector" "values" "[F" (.ref tv)) (Vd : Arv Z h0 td kd .int 3 [.int 1, .int 2, .int 3] (.int 0)) (Vv : Arv Z h0 tv kv .float 3 [.float f0, .float f1, .float f2] (.float 0)) (Vz : Arv Z h0 tz kz .double 4 [.double b0, .double b1, .double b2, .double b3] (.double 0)) (hd : td ≠ tz) (hv : tv ≠ tz) (hx : x ≠ tz) : W.MetN l Z (⟨"com/example/intent_search/intentsearch/rank/CategoryVector", "addTo", "([DD)V"⟩ : MethodName) prog_31_method_4_code 5 ((Option.none : Option Jvm.ClassFile.FieldType)) [] ({ frames := 0, cells := 0, slots := 0, locals := 0 } : Room) #[.ref x, .ref tz, .double ff]  h0 (QA14 Z tz kz b0 b1 b2 b3 ff f0 f1 f2 h0) := by
  refine W.MetN.mk (ls0 := #[.val (.ref x), .val (.ref tz), .val (.double ff), .second, .unset]) [tz] (plainFor_of_name pn_com_example_intent_search_intentsearch_rank_CategoryVector) (fun m => by first | (simp [entryFrame, mkF, argsToLocals, Value.category]; done) | rfl) ?_
  intro p e s m below meth c s₁ hml hret hnm hlk P0
  show W.Go p.tables e below _ (s₁.setTop (mkF m 0 #[.val (.ref x), .val (.ref tz), .val (.double ff), .second, .unset] []))
  refine W.g_iconst (pc1 := 1) (v := (0 : Int32)) P0.q d6_0 (by decide) rfl ?_
  refine W.g_istore (pc1 := 3) (ls2 := #[.val (.ref x), .val (.ref tz), .val (.double ff), .second, .val (.int (0 : Int32))]) P0.q d6_1 rfl rfl ?_
  refine W.g_iload (pc1 := 5) P0.q d6_3 rfl rfl ?_
  refine W.g_aloadN (pc1 := 6) P0.q d6_5 rfl rfl rfl ?_
  refine P0.getF (host := "") (pc1 := 9) (Or.inl (wd hw (k := 22) rfl)) Via.refl Fd d6_6 rfl ?_
  intro T228 P228
  refine P228.len (pc1 := 10) Vd d6_9 rfl ?_
  refine W.g_cmpN (pc2 := 13) P228.q d6_10 rfl (by decide) ?_
  refine W.g_aloadN (pc1 := 14) P228.q d6_13 rfl rfl rfl ?_
  refine W.g_aloadN (pc1 := 15) P228.q d6_14 rfl rfl rfl ?_
  refine P228.getF (host := "") (pc1 := 18) (Or.inl (wd hw (k := 22) rfl)) Via.refl Fd d6_15 rfl ?_
  intro T229 P229
  refine W.g_iload (pc1 := 20) P229.q d6_18 rfl rfl ?_
  refine P229.ldI (pc1 := 21) (v := (.int (1 : Int32))) Vd (by decide) (by decide) rfl d6_20 rfl ?_
  refine W.g_dup2 (pc1 := 22) P229.q d6_21 rfl rfl rfl ?_
  refine P229.ldD (pc1 := 23) (v := (.double b1)) Vz (by decide) (by decide) rfl d6_22 rfl ?_
  refine W.g_dloadN (pc1 := 24) P229.q d6_23 rfl rfl ?_
  refine W.g_aloadN (pc1 := 25) P229.q d6_24 rfl rfl rfl ?_
  refine P229.getF (host := "") (pc1 := 28) (Or.inl (wd hw (k := 24) rfl)) Via.refl Fv d6_25 rfl ?_
  intro T230 P230
  refine W.g_iload (pc1 := 30) P230.q d6_28 rfl rfl ?_
  refine P230.ldF (pc1 := 31) (v := (.float f0)) Vv (by decide) (by decide) rfl d6_30 rfl ?_
  refine W.g_f2d (pc1 := 32) P230.q d6_31 hf0 rfl ?_
  refine W.g_dmul (pc1 := 33) P230.q d6_32 hm0 rfl ?_
  refine W.g_dadd (pc1 := 34) P230.q d6_33 ha0 rfl ?_
  refine P230.stD (pc1 := 35) (i := 1) Vz (by decide) (by decide) (Nat.le_of_ble_eq_true rfl) rfl (Or.inl (List.mem_singleton.mpr rfl)) (Safe.arv P230.al Vz (by decide)) d6_34 rfl ?_
  intro T231 h231 P231 W231 V231
  have Fd231 := Fd.other W231 (Or.inl hx)
  have Fv231 := Fv.other W231 (Or.inl hx)
  have Vd231 := Vd.other W231 hd
  have Vv231 := Vv.other W231 hv
  refine W.g_iinc (pc1 := 38) (ls2 := #[.val (.ref x), .val (.ref tz), .val (.double ff), .second, .val (.int ((0 : Int32) + Int32.ofInt 1))]) P231.q d6_35 rfl rfl rfl ?_
  refine W.g_goto (pc1 := 3) P231.q d6_38 (by decide) rfl ?_
  refine W.g_iload (pc1 := 5) P231.q d6_3 rfl rfl ?_
  refine W.g_aloadN (pc1 := 6) P231.q d6_5 rfl rfl rfl ?_
  refine P231.getF (host := "") (pc1 := 9) (Or.inl (wd hw (k := 22) rfl)) Via.refl Fd231 d6_6 rfl ?_
  intro T232 P232
  refine P232.len (pc1 := 10) Vd231 d6_9 rfl ?_
  show W.Go p.tables e below _ (T232.setTop (mkF m 10 #[.val (.ref x), .val (.ref tz), .val (.double ff), .second, .val (.int (1 : Int32))] [(.int (3 : Int32)), (.int (1 : Int32))]))
  refine W.g_cmpN (pc2 := 13) P232.q d6_10 rfl (by decide) ?_
  refine W.g_aloadN (pc1 := 14) P232.q d6_13 rfl rfl rfl ?_
  refine W.g_aloadN (pc1 := 15) P232.q d6_14 rfl rfl rfl ?_
  refine P232.getF (host := "") (pc1 := 18) (Or.inl (wd hw (k := 22) rfl)) Via.refl Fd231 d6_15 rfl ?_
  intro T233 P233
  refine W.g_iload (pc1 := 20) P233.q d6_18 rfl rfl ?_
  refine P233.ldI (pc1 := 21) (v := (.int (2 : Int32))) Vd231 (by decide) (by decide) rfl d6_20 rfl ?_
  refine W.g_dup2 (pc1 := 22) P233.q d6_21 rfl rfl rfl ?_
  refine P233.ldD (pc1 := 23) (v := (.double b2)) V231 (by decide) (by decide) rfl d6_22 rfl ?_
  refine W.g_dloadN (pc1 := 24) P233.q d6_23 rfl rfl ?_
  refine W.g_aloadN (pc1 := 25) P233.q d6_24 rfl rfl rfl ?_
  refine P233.getF (host := "") (pc1 := 28) (Or.inl (wd hw (k := 24) rfl)) Via.refl Fv231 d6_25 rfl ?_
  intro T234 P234
  refine W.g_iload (pc1 := 30) P234.q d6_28 rfl rfl ?_
  refine P234.ldF (pc1 := 31) (v := (.float f1)) Vv231 (by decide) (by decide) rfl d6_30 rfl ?_
  refine W.g_f2d (pc1 := 32) P234.q d6_31 hf1 rfl ?_
  refine W.g_dmul (pc1 := 33) P234.q d6_32 hm1 rfl ?_
  refine W.g_dadd (pc1 := 34) P234.q d6_33 ha1 rfl ?_
  refine P234.stD (pc1 := 35) (i := 2) V231 (by decide) (by decide) (Nat.le_of_ble_eq_true rfl) rfl (Or.inl (List.mem_singleton.mpr rfl)) (Safe.arv P234.al V231 (by decide)) d6_34 rfl ?_
  intro T235 h235 P235 W235 V235
  have Fd235 := Fd231.other W235 (Or.inl hx)
  have Fv235 := Fv231.other W235 (Or.inl hx)
  have Vd235 := Vd231.other W235 hd
  have Vv235 := Vv231.other W235 hv
  refine W.g_iinc (pc1 := 38) (ls2 := #[.val (.ref x), .val (.ref tz), .val (.double ff), .second, .val (.int ((1 : Int32) + Int32.ofInt 1))]) P235.q d6_35 rfl rfl rfl ?_
  refine W.g_goto (pc1 := 3) P235.q d6_38 (by decide) rfl ?_
  refine W.g_iload (pc1 := 5) P235.q d6_3 rfl rfl ?_
  refine W.g_aloadN (pc1 := 6) P235.q d6_5 rfl rfl rfl ?_
  refine P235.getF (host := "") (pc1 := 9) (Or.inl (wd hw (k := 22) rfl)) Via.refl Fd235 d6_6 rfl ?_
  intro T236 P236
  refine P236.len (pc1 := 10) Vd235 d6_9 rfl ?_
  show W.Go p.tables e below _ (T236.setTop (mkF m 10 #[.val (.ref x), .val (.ref tz), .val (.double ff), .second, .val (.int (2 : Int32))] [(.int (3 : Int32)), (.int (2 : Int32))]))
  refine W.g_cmpN (pc2 := 13) P236.q d6_10 rfl (by decide) ?_
  refine W.g_aloadN (pc1 := 14) P236.q d6_13 rfl rfl rfl ?_
  refine W.g_aloadN (pc1 := 15) P236.q d6_14 rfl rfl rfl ?_
  refine P236.getF (host := "") (pc1 := 18) (Or.inl (wd hw (k := 22) rfl)) Via.refl Fd235 d6_15 rfl ?_
  intro T237 P237
  refine W.g_iload (pc1 := 20) P237.q d6_18 rfl rfl ?_
  refine P237.ldI (pc1 := 21) (v := (.int (3 : Int32))) Vd235 (by decide) (by decide) rfl d6_20 rfl ?_
  refine W.g_dup2 (pc1 := 22) P237.q d6_21 rfl rfl rfl ?_
  refine P237.ldD (pc1 := 23) (v := (.double b3)) V235 (by decide) (by decide) rfl d6_22 rfl ?_
  refine W.g_dloadN (pc1 := 24) P237.q d6_23 rfl rfl ?_
  refine W.g_aloadN (pc1 := 25) P237.q d6_24 rfl rfl rfl ?_
  refine P237.getF (host := "") (pc1 := 28) (Or.inl (wd hw (k := 24) rfl)) Via.refl Fv235 d6_25 rfl ?_
  intro T238 P238
  refine W.g_iload (pc1 := 30) P238.q d6_28 rfl rfl ?_
  refine P238.ldF (pc1 := 31) (v := (.float f2)) Vv235 (by decide) (by decide) rfl d6_30 rfl ?_
  refine W.g_f2d (pc1 := 32) P238.q d6_31 hf2 rfl ?_
  refine W.g_dmul (pc1 := 33) P238.q d6_32 hm2 rfl ?_
  refine W.g_dadd (pc1 := 34) P238.q d6_33 ha2 rfl ?_
  refine P238.stD (pc1 := 35) (i := 3) V235 (by decide) (by decide) (Nat.le_of_ble_eq_true rfl) rfl (Or.inl (List.mem_singleton.mpr rfl)) (Safe.arv P238.al V235 (by decide)) d6_34 rfl ?_
  intro T239 h239 P239 W239 V239
  have Fd239 := Fd235.other W239 (Or.inl hx)
  have Fv239 := Fv235.other W239 (Or.inl hx)
  have Vd239 := Vd235.other W239 hd
  have Vv239 := Vv235.other W239 hv
  refine W.g_iinc (pc1 := 38) (ls2 := #[.val (.ref x), .val (.ref tz), .val (.double ff), .second, .val (.int ((2 : Int32) + Int32.ofInt 1))]) P239.q d6_35 rfl rfl rfl ?_
  refine W.g_goto (pc1 := 3) P239.q d6_38 (by decide) rfl ?_
  refine W.g_iload (pc1 := 5) P239.q d6_3 rfl rfl ?_
  refine W.g_aloadN (pc1 := 6) P239.q d6_5 rfl rfl rfl ?_
  refine P239.getF (host := "") (pc1 := 9) (Or.inl (wd hw (k := 22) rfl)) Via.refl Fd239 d6_6 rfl ?_
  intro T240 P240
  refine P240.len (pc1 := 10) Vd239 d6_9 rfl ?_
  show W.Go p.tables e below _ (T240.setTop (mkF m 10 #[.val (.ref x), .val (.ref tz), .val (.double ff), .second, .val (.int (3 : Int32))] [(.int (3 : Int32)), (.int (3 : Int32))]))
  refine W.g_cmpY (pc1 := 41) P240.q d6_10 (by decide) rfl (by decide) ?_
  exact P240.retN hlk hret d6_41 (by decide) (by decide) ⟨rfl, P240.fr, P240.keep, V239⟩
def QA15 (Z : State) (tz : Addr) (kz : ClassId) (b0 b1 b2 b3 ff : UInt64) (f0 : UInt32) (f1 : UInt32) (f2 : UInt32) (f3 : UInt32) (h0 : Heap) (v : Option Value) (h : Heap) (L : List Loc) : Prop := v = none ∧ W.Frw [tz] h0.size L ∧ Keep h0 h [tz] ∧ Arv Z h tz kz .double 4 [.double (FP.dadd b0 (FP.dmul ff (FP.f2d f0))), .double (FP.dadd b1 (FP.dmul ff (FP.f2d f1))), .double (FP.dadd b2 (FP.dmul ff (FP.f2d f2))), .double (FP.dadd b3 (FP.dmul ff (FP.f2d f3)))] (.double 0)
set_option maxRecDepth 65536 in
set_option maxHeartbeats 40000000 in
theorem c_add15 (l : Launch) (Z : State) (a0 : Array Value) (hw : ∀ d ∈ tables_1, d.before a0 Z = true) (x td tv tz : Addr) (kd kv kz : ClassId) (b0 b1 b2 b3 ff : UInt64) (f0 : UInt32) (hf0 : Jvm.Free.Fl.NoNaN64 (FP.f2d f0)) (hm0 : Jvm.Free.Fl.NoNaN64 (FP.dmul ff (FP.f2d f0))) (ha0 : Jvm.Free.Fl.NoNaN64 (FP.dadd b0 (FP.dmul ff (FP.f2d f0)))) (f1 : UInt32) (hf1 : Jvm.Free.Fl.NoNaN64 (FP.f2d f1)) (hm1 : Jvm.Free.Fl.NoNaN64 (FP.dmul ff (FP.f2d f1))) (ha1 : Jvm.Free.Fl.NoNaN64 (FP.dadd b1 (FP.dmul ff (FP.f2d f1)))) (f2 : UInt32) (hf2 : Jvm.Free.Fl.NoNaN64 (FP.f2d f2)) (hm2 : Jvm.Free.Fl.NoNaN64 (FP.dmul ff (FP.f2d f2))) (ha2 : Jvm.Free.Fl.NoNaN64 (FP.dadd b2 (FP.dmul ff (FP.f2d f2)))) (f3 : UInt32) (hf3 : Jvm.Free.Fl.NoNaN64 (FP.f2d f3)) (hm3 : Jvm.Free.Fl.NoNaN64 (FP.dmul ff (FP.f2d f3))) (ha3 : Jvm.Free.Fl.NoNaN64 (FP.dadd b3 (FP.dmul ff (FP.f2d f3)))) (h0 : Heap) (E0 : Exa Z h0 x "com/example/intent_search/intentsearch/rank/CategoryVector") (Fd : Fld Z h0 x "com/example/intent_search/intentsearch/rank/CategoryVector" "dimensions" "[I" (.ref td)) (Fv : Fld Z h0 x "com/example/intent_search/intentsearch/rank/CategoryVector" "values" "[F" (.ref tv)) (Vd : Arv Z h0 td kd .int 4 [.int 0, .int 1, .int 2, .int 3] (.int 0)) (Vv : Arv Z h0 tv kv .float 4 [.float f0, .float f1, .float f2, .float f3] (.float 0)) (Vz : Arv Z h0 tz kz .double 4 [.double b0, .double b1, .double b2, .double b3] (.double 0)) (hd : td ≠ tz) (hv : tv ≠ tz) (hx : x ≠ tz) : W.MetN l Z (⟨"com/example/intent_search/intentsearch/rank/CategoryVector", "addTo", "([DD)V"⟩ : MethodName) prog_31_method_4_code 5 ((Option.none : Option Jvm.ClassFile.FieldType)) [] ({ frames := 0, cells := 0, slots := 0, locals := 0 } : Room) #[.ref x, .ref tz, .double ff]  h0 (QA15 Z tz kz b0 b1 b2 b3 ff f0 f1 f2 f3 h0) := by
  refine W.MetN.mk (ls0 := #[.val (.ref x), .val (.ref tz), .val (.double ff), .second, .unset]) [tz] (plainFor_of_name pn_com_example_intent_search_intentsearch_rank_CategoryVector) (fun m => by first | (simp [entryFrame, mkF, argsToLocals, Value.category]; done) | rfl) ?_
  intro p e s m below meth c s₁ hml hret hnm hlk P0
  show W.Go p.tables e below _ (s₁.setTop (mkF m 0 #[.val (.ref x), .val (.ref tz), .val (.double ff), .second, .unset] []))
  refine W.g_iconst (pc1 := 1) (v := (0 : Int32)) P0.q d6_0 (by decide) rfl ?_
  refine W.g_istore (pc1 := 3) (ls2 := #[.val (.ref x), .val (.ref tz), .val (.double ff), .second, .val (.int (0 : Int32))]) P0.q d6_1 rfl rfl ?_
  refine W.g_iload (pc1 := 5) P0.q d6_3 rfl rfl ?_
  refine W.g_aloadN (pc1 := 6) P0.q d6_5 rfl rfl rfl ?_
  refine P0.getF (host := "") (pc1 := 9) (Or.inl (wd hw (k := 22) rfl)) Via.refl Fd d6_6 rfl ?_
  intro T241 P241
  refine P241.len (pc1 := 10) Vd d6_9 rfl ?_
  refine W.g_cmpN (pc2 := 13) P241.q d6_10 rfl (by decide) ?_
  refine W.g_aloadN (pc1 := 14) P241.q d6_13 rfl rfl rfl ?_
  refine W.g_aloadN (pc1 := 15) P241.q d6_14 rfl rfl rfl ?_
  refine P241.getF (host := "") (pc1 := 18) (Or.inl (wd hw (k := 22) rfl)) Via.refl Fd d6_15 rfl ?_
  intro T242 P242
  refine W.g_iload (pc1 := 20) P242.q d6_18 rfl rfl ?_
  refine P242.ldI (pc1 := 21) (v := (.int (0 : Int32))) Vd (by decide) (by decide) rfl d6_20 rfl ?_
  refine W.g_dup2 (pc1 := 22) P242.q d6_21 rfl rfl rfl ?_
  refine P242.ldD (pc1 := 23) (v := (.double b0)) Vz (by decide) (by decide) rfl d6_22 rfl ?_
  refine W.g_dloadN (pc1 := 24) P242.q d6_23 rfl rfl ?_
  refine W.g_aloadN (pc1 := 25) P242.q d6_24 rfl rfl rfl ?_
  refine P242.getF (host := "") (pc1 := 28) (Or.inl (wd hw (k := 24) rfl)) Via.refl Fv d6_25 rfl ?_
  intro T243 P243
  refine W.g_iload (pc1 := 30) P243.q d6_28 rfl rfl ?_
  refine P243.ldF (pc1 := 31) (v := (.float f0)) Vv (by decide) (by decide) rfl d6_30 rfl ?_
  refine W.g_f2d (pc1 := 32) P243.q d6_31 hf0 rfl ?_
  refine W.g_dmul (pc1 := 33) P243.q d6_32 hm0 rfl ?_
  refine W.g_dadd (pc1 := 34) P243.q d6_33 ha0 rfl ?_
  refine P243.stD (pc1 := 35) (i := 0) Vz (by decide) (by decide) (Nat.le_of_ble_eq_true rfl) rfl (Or.inl (List.mem_singleton.mpr rfl)) (Safe.arv P243.al Vz (by decide)) d6_34 rfl ?_
  intro T244 h244 P244 W244 V244
  have Fd244 := Fd.other W244 (Or.inl hx)
  have Fv244 := Fv.other W244 (Or.inl hx)
  have Vd244 := Vd.other W244 hd
  have Vv244 := Vv.other W244 hv
  refine W.g_iinc (pc1 := 38) (ls2 := #[.val (.ref x), .val (.ref tz), .val (.double ff), .second, .val (.int ((0 : Int32) + Int32.ofInt 1))]) P244.q d6_35 rfl rfl rfl ?_
  refine W.g_goto (pc1 := 3) P244.q d6_38 (by decide) rfl ?_
  refine W.g_iload (pc1 := 5) P244.q d6_3 rfl rfl ?_
  refine W.g_aloadN (pc1 := 6) P244.q d6_5 rfl rfl rfl ?_
  refine P244.getF (host := "") (pc1 := 9) (Or.inl (wd hw (k := 22) rfl)) Via.refl Fd244 d6_6 rfl ?_
  intro T245 P245
  refine P245.len (pc1 := 10) Vd244 d6_9 rfl ?_
  show W.Go p.tables e below _ (T245.setTop (mkF m 10 #[.val (.ref x), .val (.ref tz), .val (.double ff), .second, .val (.int (1 : Int32))] [(.int (4 : Int32)), (.int (1 : Int32))]))
  refine W.g_cmpN (pc2 := 13) P245.q d6_10 rfl (by decide) ?_
  refine W.g_aloadN (pc1 := 14) P245.q d6_13 rfl rfl rfl ?_
  refine W.g_aloadN (pc1 := 15) P245.q d6_14 rfl rfl rfl ?_
  refine P245.getF (host := "") (pc1 := 18) (Or.inl (wd hw (k := 22) rfl)) Via.refl Fd244 d6_15 rfl ?_
  intro T246 P246
  refine W.g_iload (pc1 := 20) P246.q d6_18 rfl rfl ?_
  refine P246.ldI (pc1 := 21) (v := (.int (1 : Int32))) Vd244 (by decide) (by decide) rfl d6_20 rfl ?_
  refine W.g_dup2 (pc1 := 22) P246.q d6_21 rfl rfl rfl ?_
  refine P246.ldD (pc1 := 23) (v := (.double b1)) V244 (by decide) (by decide) rfl d6_22 rfl ?_
  refine W.g_dloadN (pc1 := 24) P246.q d6_23 rfl rfl ?_
  refine W.g_aloadN (pc1 := 25) P246.q d6_24 rfl rfl rfl ?_
  refine P246.getF (host := "") (pc1 := 28) (Or.inl (wd hw (k := 24) rfl)) Via.refl Fv244 d6_25 rfl ?_
  intro T247 P247
  refine W.g_iload (pc1 := 30) P247.q d6_28 rfl rfl ?_
  refine P247.ldF (pc1 := 31) (v := (.float f1)) Vv244 (by decide) (by decide) rfl d6_30 rfl ?_
  refine W.g_f2d (pc1 := 32) P247.q d6_31 hf1 rfl ?_
  refine W.g_dmul (pc1 := 33) P247.q d6_32 hm1 rfl ?_
  refine W.g_dadd (pc1 := 34) P247.q d6_33 ha1 rfl ?_
  refine P247.stD (pc1 := 35) (i := 1) V244 (by decide) (by decide) (Nat.le_of_ble_eq_true rfl) rfl (Or.inl (List.mem_singleton.mpr rfl)) (Safe.arv P247.al V244 (by decide)) d6_34 rfl ?_
  intro T248 h248 P248 W248 V248
  have Fd248 := Fd244.other W248 (Or.inl hx)
  have Fv248 := Fv244.other W248 (Or.inl hx)
  have Vd248 := Vd244.other W248 hd
  have Vv248 := Vv244.other W248 hv
  refine W.g_iinc (pc1 := 38) (ls2 := #[.val (.ref x), .val (.ref tz), .val (.double ff), .second, .val (.int ((1 : Int32) + Int32.ofInt 1))]) P248.q d6_35 rfl rfl rfl ?_
  refine W.g_goto (pc1 := 3) P248.q d6_38 (by decide) rfl ?_
  refine W.g_iload (pc1 := 5) P248.q d6_3 rfl rfl ?_
  refine W.g_aloadN (pc1 := 6) P248.q d6_5 rfl rfl rfl ?_
  refine P248.getF (host := "") (pc1 := 9) (Or.inl (wd hw (k := 22) rfl)) Via.refl Fd248 d6_6 rfl ?_
  intro T249 P249
  refine P249.len (pc1 := 10) Vd248 d6_9 rfl ?_
  show W.Go p.tables e below _ (T249.setTop (mkF m 10 #[.val (.ref x), .val (.ref tz), .val (.double ff), .second, .val (.int (2 : Int32))] [(.int (4 : Int32)), (.int (2 : Int32))]))
  refine W.g_cmpN (pc2 := 13) P249.q d6_10 rfl (by decide) ?_
  refine W.g_aloadN (pc1 := 14) P249.q d6_13 rfl rfl rfl ?_
  refine W.g_aloadN (pc1 := 15) P249.q d6_14 rfl rfl rfl ?_
  refine P249.getF (host := "") (pc1 := 18) (Or.inl (wd hw (k := 22) rfl)) Via.refl Fd248 d6_15 rfl ?_
  intro T250 P250
  refine W.g_iload (pc1 := 20) P250.q d6_18 rfl rfl ?_
  refine P250.ldI (pc1 := 21) (v := (.int (2 : Int32))) Vd248 (by decide) (by decide) rfl d6_20 rfl ?_
  refine W.g_dup2 (pc1 := 22) P250.q d6_21 rfl rfl rfl ?_
  refine P250.ldD (pc1 := 23) (v := (.double b2)) V248 (by decide) (by decide) rfl d6_22 rfl ?_
  refine W.g_dloadN (pc1 := 24) P250.q d6_23 rfl rfl ?_
  refine W.g_aloadN (pc1 := 25) P250.q d6_24 rfl rfl rfl ?_
  refine P250.getF (host := "") (pc1 := 28) (Or.inl (wd hw (k := 24) rfl)) Via.refl Fv248 d6_25 rfl ?_
  intro T251 P251
  refine W.g_iload (pc1 := 30) P251.q d6_28 rfl rfl ?_
  refine P251.ldF (pc1 := 31) (v := (.float f2)) Vv248 (by decide) (by decide) rfl d6_30 rfl ?_
  refine W.g_f2d (pc1 := 32) P251.q d6_31 hf2 rfl ?_
  refine W.g_dmul (pc1 := 33) P251.q d6_32 hm2 rfl ?_
  refine W.g_dadd (pc1 := 34) P251.q d6_33 ha2 rfl ?_
  refine P251.stD (pc1 := 35) (i := 2) V248 (by decide) (by decide) (Nat.le_of_ble_eq_true rfl) rfl (Or.inl (List.mem_singleton.mpr rfl)) (Safe.arv P251.al V248 (by decide)) d6_34 rfl ?_
  intro T252 h252 P252 W252 V252
  have Fd252 := Fd248.other W252 (Or.inl hx)
  have Fv252 := Fv248.other W252 (Or.inl hx)
  have Vd252 := Vd248.other W252 hd
  have Vv252 := Vv248.other W252 hv
  refine W.g_iinc (pc1 := 38) (ls2 := #[.val (.ref x), .val (.ref tz), .val (.double ff), .second, .val (.int ((2 : Int32) + Int32.ofInt 1))]) P252.q d6_35 rfl rfl rfl ?_
  refine W.g_goto (pc1 := 3) P252.q d6_38 (by decide) rfl ?_
  refine W.g_iload (pc1 := 5) P252.q d6_3 rfl rfl ?_
  refine W.g_aloadN (pc1 := 6) P252.q d6_5 rfl rfl rfl ?_
  refine P252.getF (host := "") (pc1 := 9) (Or.inl (wd hw (k := 22) rfl)) Via.refl Fd252 d6_6 rfl ?_
  intro T253 P253
  refine P253.len (pc1 := 10) Vd252 d6_9 rfl ?_
  show W.Go p.tables e below _ (T253.setTop (mkF m 10 #[.val (.ref x), .val (.ref tz), .val (.double ff), .second, .val (.int (3 : Int32))] [(.int (4 : Int32)), (.int (3 : Int32))]))
  refine W.g_cmpN (pc2 := 13) P253.q d6_10 rfl (by decide) ?_
  refine W.g_aloadN (pc1 := 14) P253.q d6_13 rfl rfl rfl ?_
  refine W.g_aloadN (pc1 := 15) P253.q d6_14 rfl rfl rfl ?_
  refine P253.getF (host := "") (pc1 := 18) (Or.inl (wd hw (k := 22) rfl)) Via.refl Fd252 d6_15 rfl ?_
  intro T254 P254
  refine W.g_iload (pc1 := 20) P254.q d6_18 rfl rfl ?_
  refine P254.ldI (pc1 := 21) (v := (.int (3 : Int32))) Vd252 (by decide) (by decide) rfl d6_20 rfl ?_
  refine W.g_dup2 (pc1 := 22) P254.q d6_21 rfl rfl rfl ?_
  refine P254.ldD (pc1 := 23) (v := (.double b3)) V252 (by decide) (by decide) rfl d6_22 rfl ?_
  refine W.g_dloadN (pc1 := 24) P254.q d6_23 rfl rfl ?_
  refine W.g_aloadN (pc1 := 25) P254.q d6_24 rfl rfl rfl ?_
  refine P254.getF (host := "") (pc1 := 28) (Or.inl (wd hw (k := 24) rfl)) Via.refl Fv252 d6_25 rfl ?_
  intro T255 P255
  refine W.g_iload (pc1 := 30) P255.q d6_28 rfl rfl ?_
  refine P255.ldF (pc1 := 31) (v := (.float f3)) Vv252 (by decide) (by decide) rfl d6_30 rfl ?_
  refine W.g_f2d (pc1 := 32) P255.q d6_31 hf3 rfl ?_
  refine W.g_dmul (pc1 := 33) P255.q d6_32 hm3 rfl ?_
  refine W.g_dadd (pc1 := 34) P255.q d6_33 ha3 rfl ?_
  refine P255.stD (pc1 := 35) (i := 3) V252 (by decide) (by decide) (Nat.le_of_ble_eq_true rfl) rfl (Or.inl (List.mem_singleton.mpr rfl)) (Safe.arv P255.al V252 (by decide)) d6_34 rfl ?_
  intro T256 h256 P256 W256 V256
  have Fd256 := Fd252.other W256 (Or.inl hx)
  have Fv256 := Fv252.other W256 (Or.inl hx)
  have Vd256 := Vd252.other W256 hd
  have Vv256 := Vv252.other W256 hv
  refine W.g_iinc (pc1 := 38) (ls2 := #[.val (.ref x), .val (.ref tz), .val (.double ff), .second, .val (.int ((3 : Int32) + Int32.ofInt 1))]) P256.q d6_35 rfl rfl rfl ?_
  refine W.g_goto (pc1 := 3) P256.q d6_38 (by decide) rfl ?_
  refine W.g_iload (pc1 := 5) P256.q d6_3 rfl rfl ?_
  refine W.g_aloadN (pc1 := 6) P256.q d6_5 rfl rfl rfl ?_
  refine P256.getF (host := "") (pc1 := 9) (Or.inl (wd hw (k := 22) rfl)) Via.refl Fd256 d6_6 rfl ?_
  intro T257 P257
  refine P257.len (pc1 := 10) Vd256 d6_9 rfl ?_
  show W.Go p.tables e below _ (T257.setTop (mkF m 10 #[.val (.ref x), .val (.ref tz), .val (.double ff), .second, .val (.int (4 : Int32))] [(.int (4 : Int32)), (.int (4 : Int32))]))
  refine W.g_cmpY (pc1 := 41) P257.q d6_10 (by decide) rfl (by decide) ?_
  exact P257.retN hlk hret d6_41 (by decide) (by decide) ⟨rfl, P257.fr, P257.keep, V256⟩
set_option maxRecDepth 65536 in
set_option maxHeartbeats 40000000 in
theorem c_chk00 (l : Launch) (Z : State) (a0 : Array Value) (hw : ∀ d ∈ tables_1, d.before a0 Z = true) (tz : Addr) (kz : ClassId) (o0 o1 o2 o3 ff : UInt64) (p0 vl dn : Int32) (hbit : ((p0 >>> ((0 : Int32) &&& 31)) &&& 1) = 0) (hcmp : cmpValue (FP.dcmp o0 (FP.i2d (own_db dn 0))) .l = 0) (h0 : Heap) (Vz : Arv Z h0 tz kz .double 4 [.double o0, .double o1, .double o2, .double o3] (.double 0)) : W.MetN l Z (⟨"com/example/intent_search/intentsearch/rank/CategoryVectorAddToPinLaw", "check", "([DIIIID)Z"⟩ : MethodName) method_6_code 11 ((Option.some Jvm.ClassFile.FieldType.boolean)) [] ({ frames := 1, cells := 0, slots := 0, locals := 20 } : Room) #[.ref tz, .int 0, .int p0, .int vl, .int dn, .double ff]  h0 (W.Pure (some (.int 1)) h0) := by
  refine W.MetN.mk (ls0 := #[.val (.ref tz), .val (.int (0 : Int32)), .val (.int p0), .val (.int vl), .val (.int dn), .val (.double ff), .second, .unset, .unset, .unset, .unset]) [] (plainFor_of_name pn_com_example_intent_search_intentsearch_rank_CategoryVectorAddToPinLaw) (fun m => by first | (simp [entryFrame, mkF, argsToLocals, Value.category]; done) | rfl) ?_
  intro p e s m below meth c s₁ hml hret hnm hlk P0
  show W.Go p.tables e below _ (s₁.setTop (mkF m 0 #[.val (.ref tz), .val (.int (0 : Int32)), .val (.int p0), .val (.int vl), .val (.int dn), .val (.double ff), .second, .unset, .unset, .unset, .unset] []))
  refine W.g_iload (pc1 := 2) P0.q d7_0 rfl rfl ?_
  refine W.g_iloadN (pc1 := 3) P0.q d7_2 rfl rfl ?_
  refine P0.callS (pc1 := 6) (wd hw (k := 10) rfl) (wd hw (k := 11) rfl) (wd hw (k := 2) rfl) (wd hw (k := 12) rfl) (by decide) (W.MetN.pay (W := 0) (c_dv l Z a0 hw dn 0 h0) P0 (wd hw (k := 12) rfl) (wd hw (k := 2) rfl) (by decide) (by decide)) (argsL := [(.int dn), (.int (0 : Int32))]) (st0 := []) (lenOf pd_II_R_D rfl) rfl rfl (Nat.le_of_eq rfl) (by rw [hml]; rfl) (by decide) (by decide) (W.Pure.ok P0.chv) d7_3 rfl ?_
  intro v258 T258 h258 L258 q258 P258
  obtain ⟨rfl, rfl, rfl⟩ := q258
  show W.Go p.tables e below _ (T258.setTop (mkF m 6 #[.val (.ref tz), .val (.int (0 : Int32)), .val (.int p0), .val (.int vl), .val (.int dn), .val (.double ff), .second, .unset, .unset, .unset, .unset] [(.double (FP.i2d (own_db dn 0)))]))
  refine W.g_dstore (pc1 := 8) (ls2 := #[.val (.ref tz), .val (.int (0 : Int32)), .val (.int p0), .val (.int vl), .val (.int dn), .val (.double ff), .second, .val (.double (FP.i2d (own_db dn 0))), .second, .unset, .unset]) P258.q d7_6 rfl rfl ?_
  refine W.g_iloadN (pc1 := 9) P258.q d7_8 rfl rfl ?_
  refine W.g_iloadN (pc1 := 10) P258.q d7_9 rfl rfl ?_
  refine W.g_ishr (pc1 := 11) P258.q d7_10 rfl ?_
  refine W.g_iconst (pc1 := 12) (v := (1 : Int32)) P258.q d7_11 (by decide) rfl ?_
  refine W.g_iand (pc1 := 13) P258.q d7_12 rfl ?_
  refine W.g_ifY (pc1 := 33) P258.q d7_13 (by decide) rfl hbit ?_
  refine W.g_dload (pc1 := 35) P258.q d7_33 rfl rfl ?_
  refine W.g_dstore (pc1 := 37) (ls2 := #[.val (.ref tz), .val (.int (0 : Int32)), .val (.int p0), .val (.int vl), .val (.int dn), .val (.double ff), .second, .val (.double (FP.i2d (own_db dn 0))), .second, .val (.double (FP.i2d (own_db dn 0))), .second]) P258.q d7_35 rfl rfl ?_
  refine W.g_aloadN (pc1 := 38) P258.q d7_37 rfl rfl rfl ?_
  refine W.g_iloadN (pc1 := 39) P258.q d7_38 rfl rfl ?_
  refine P258.ldD (pc1 := 40) (v := (.double o0)) Vz (by decide) (by decide) rfl d7_39 rfl ?_
  refine W.g_dload (pc1 := 42) P258.q d7_40 rfl rfl ?_
  refine W.g_dcmp (pc1 := 43) P258.q d7_42 rfl ?_
  rw [hcmp]
  refine W.g_ifN (pc2 := 46) P258.q d7_43 rfl (by decide) ?_
  refine W.g_iconst (pc1 := 47) (v := (1 : Int32)) P258.q d7_46 (by decide) rfl ?_
  refine W.g_goto (pc1 := 51) P258.q d7_47 (by decide) rfl ?_
  exact P258.retVN hlk hret (Or.inl rfl) d7_51 (by decide) (by decide) ⟨rfl, rfl, rfl⟩
set_option maxRecDepth 65536 in
set_option maxHeartbeats 40000000 in
theorem c_chk01 (l : Launch) (Z : State) (a0 : Array Value) (hw : ∀ d ∈ tables_1, d.before a0 Z = true) (tz : Addr) (kz : ClassId) (o0 o1 o2 o3 ff : UInt64) (p0 vl dn : Int32) (hbit : ¬ ((p0 >>> ((0 : Int32) &&& 31)) &&& 1) = 0) (hf : Jvm.Free.Fl.NoNaN64 (FP.f2d (FP.i2f (own_vb vl 0)))) (hm : Jvm.Free.Fl.NoNaN64 (FP.dmul ff (FP.f2d (FP.i2f (own_vb vl 0))))) (ha : Jvm.Free.Fl.NoNaN64 (FP.dadd (FP.i2d (own_db dn 0)) (FP.dmul ff (FP.f2d (FP.i2f (own_vb vl 0)))))) (hcmp : cmpValue (FP.dcmp o0 (FP.dadd (FP.i2d (own_db dn 0)) (FP.dmul ff (FP.f2d (FP.i2f (own_vb vl 0)))))) .l = 0) (h0 : Heap) (Vz : Arv Z h0 tz kz .double 4 [.double o0, .double o1, .double o2, .double o3] (.double 0)) : W.MetN l Z (⟨"com/example/intent_search/intentsearch/rank/CategoryVectorAddToPinLaw", "check", "([DIIIID)Z"⟩ : MethodName) method_6_code 11 ((Option.some Jvm.ClassFile.FieldType.boolean)) [] ({ frames := 1, cells := 0, slots := 0, locals := 20 } : Room) #[.ref tz, .int 0, .int p0, .int vl, .int dn, .double ff]  h0 (W.Pure (some (.int 1)) h0) := by
  refine W.MetN.mk (ls0 := #[.val (.ref tz), .val (.int (0 : Int32)), .val (.int p0), .val (.int vl), .val (.int dn), .val (.double ff), .second, .unset, .unset, .unset, .unset]) [] (plainFor_of_name pn_com_example_intent_search_intentsearch_rank_CategoryVectorAddToPinLaw) (fun m => by first | (simp [entryFrame, mkF, argsToLocals, Value.category]; done) | rfl) ?_
  intro p e s m below meth c s₁ hml hret hnm hlk P0
  show W.Go p.tables e below _ (s₁.setTop (mkF m 0 #[.val (.ref tz), .val (.int (0 : Int32)), .val (.int p0), .val (.int vl), .val (.int dn), .val (.double ff), .second, .unset, .unset, .unset, .unset] []))
  refine W.g_iload (pc1 := 2) P0.q d7_0 rfl rfl ?_
  refine W.g_iloadN (pc1 := 3) P0.q d7_2 rfl rfl ?_
  refine P0.callS (pc1 := 6) (wd hw (k := 10) rfl) (wd hw (k := 11) rfl) (wd hw (k := 2) rfl) (wd hw (k := 12) rfl) (by decide) (W.MetN.pay (W := 0) (c_dv l Z a0 hw dn 0 h0) P0 (wd hw (k := 12) rfl) (wd hw (k := 2) rfl) (by decide) (by decide)) (argsL := [(.int dn), (.int (0 : Int32))]) (st0 := []) (lenOf pd_II_R_D rfl) rfl rfl (Nat.le_of_eq rfl) (by rw [hml]; rfl) (by decide) (by decide) (W.Pure.ok P0.chv) d7_3 rfl ?_
  intro v259 T259 h259 L259 q259 P259
  obtain ⟨rfl, rfl, rfl⟩ := q259
  show W.Go p.tables e below _ (T259.setTop (mkF m 6 #[.val (.ref tz), .val (.int (0 : Int32)), .val (.int p0), .val (.int vl), .val (.int dn), .val (.double ff), .second, .unset, .unset, .unset, .unset] [(.double (FP.i2d (own_db dn 0)))]))
  refine W.g_dstore (pc1 := 8) (ls2 := #[.val (.ref tz), .val (.int (0 : Int32)), .val (.int p0), .val (.int vl), .val (.int dn), .val (.double ff), .second, .val (.double (FP.i2d (own_db dn 0))), .second, .unset, .unset]) P259.q d7_6 rfl rfl ?_
  refine W.g_iloadN (pc1 := 9) P259.q d7_8 rfl rfl ?_
  refine W.g_iloadN (pc1 := 10) P259.q d7_9 rfl rfl ?_
  refine W.g_ishr (pc1 := 11) P259.q d7_10 rfl ?_
  refine W.g_iconst (pc1 := 12) (v := (1 : Int32)) P259.q d7_11 (by decide) rfl ?_
  refine W.g_iand (pc1 := 13) P259.q d7_12 rfl ?_
  refine W.g_ifN (pc2 := 16) P259.q d7_13 rfl hbit ?_
  refine W.g_dload (pc1 := 18) P259.q d7_16 rfl rfl ?_
  refine W.g_dload (pc1 := 20) P259.q d7_18 rfl rfl ?_
  refine W.g_iloadN (pc1 := 21) P259.q d7_20 rfl rfl ?_
  refine W.g_iloadN (pc1 := 22) P259.q d7_21 rfl rfl ?_
  refine P259.callS (pc1 := 25) (wd hw (k := 34) rfl) (wd hw (k := 35) rfl) (wd hw (k := 2) rfl) (wd hw (k := 36) rfl) (by decide) (W.MetN.pay (W := 4) (c_val l Z a0 hw vl 0 h0) P259 (wd hw (k := 36) rfl) (wd hw (k := 2) rfl) (by decide) (by decide)) (argsL := [(.int vl), (.int (0 : Int32))]) (st0 := [(.double ff), (.double (FP.i2d (own_db dn 0)))]) (lenOf pd_II_R_F rfl) rfl rfl (Nat.le_of_eq rfl) (by rw [hml]; rfl) (by decide) (by decide) (W.Pure.ok P259.chv) d7_22 rfl ?_
  intro v260 T260 h260 L260 q260 P260
  obtain ⟨rfl, rfl, rfl⟩ := q260
  show W.Go p.tables e below _ (T260.setTop (mkF m 25 #[.val (.ref tz), .val (.int (0 : Int32)), .val (.int p0), .val (.int vl), .val (.int dn), .val (.double ff), .second, .val (.double (FP.i2d (own_db dn 0))), .second, .unset, .unset] [(.float (FP.i2f (own_vb vl 0))), (.double ff), (.double (FP.i2d (own_db dn 0)))]))
  refine W.g_f2d (pc1 := 26) P260.q d7_25 hf rfl ?_
  refine W.g_dmul (pc1 := 27) P260.q d7_26 hm rfl ?_
  refine W.g_dadd (pc1 := 28) P260.q d7_27 ha rfl ?_
  refine W.g_dstore (pc1 := 30) (ls2 := #[.val (.ref tz), .val (.int (0 : Int32)), .val (.int p0), .val (.int vl), .val (.int dn), .val (.double ff), .second, .val (.double (FP.i2d (own_db dn 0))), .second, .val (.double (FP.dadd (FP.i2d (own_db dn 0)) (FP.dmul ff (FP.f2d (FP.i2f (own_vb vl 0)))))), .second]) P260.q d7_28 rfl rfl ?_
  refine W.g_goto (pc1 := 37) P260.q d7_30 (by decide) rfl ?_
  refine W.g_aloadN (pc1 := 38) P260.q d7_37 rfl rfl rfl ?_
  refine W.g_iloadN (pc1 := 39) P260.q d7_38 rfl rfl ?_
  refine P260.ldD (pc1 := 40) (v := (.double o0)) Vz (by decide) (by decide) rfl d7_39 rfl ?_
  refine W.g_dload (pc1 := 42) P260.q d7_40 rfl rfl ?_
  refine W.g_dcmp (pc1 := 43) P260.q d7_42 rfl ?_
  rw [hcmp]
  refine W.g_ifN (pc2 := 46) P260.q d7_43 rfl (by decide) ?_
  refine W.g_iconst (pc1 := 47) (v := (1 : Int32)) P260.q d7_46 (by decide) rfl ?_
  refine W.g_goto (pc1 := 51) P260.q d7_47 (by decide) rfl ?_
  exact P260.retVN hlk hret (Or.inl rfl) d7_51 (by decide) (by decide) ⟨rfl, rfl, rfl⟩
set_option maxRecDepth 65536 in
set_option maxHeartbeats 40000000 in
theorem c_chk10 (l : Launch) (Z : State) (a0 : Array Value) (hw : ∀ d ∈ tables_1, d.before a0 Z = true) (tz : Addr) (kz : ClassId) (o0 o1 o2 o3 ff : UInt64) (p0 vl dn : Int32) (hbit : ((p0 >>> ((1 : Int32) &&& 31)) &&& 1) = 0) (hcmp : cmpValue (FP.dcmp o1 (FP.i2d (own_db dn 1))) .l = 0) (h0 : Heap) (Vz : Arv Z h0 tz kz .double 4 [.double o0, .double o1, .double o2, .double o3] (.double 0)) : W.MetN l Z (⟨"com/example/intent_search/intentsearch/rank/CategoryVectorAddToPinLaw", "check", "([DIIIID)Z"⟩ : MethodName) method_6_code 11 ((Option.some Jvm.ClassFile.FieldType.boolean)) [] ({ frames := 1, cells := 0, slots := 0, locals := 20 } : Room) #[.ref tz, .int 1, .int p0, .int vl, .int dn, .double ff]  h0 (W.Pure (some (.int 1)) h0) := by
  refine W.MetN.mk (ls0 := #[.val (.ref tz), .val (.int (1 : Int32)), .val (.int p0), .val (.int vl), .val (.int dn), .val (.double ff), .second, .unset, .unset, .unset, .unset]) [] (plainFor_of_name pn_com_example_intent_search_intentsearch_rank_CategoryVectorAddToPinLaw) (fun m => by first | (simp [entryFrame, mkF, argsToLocals, Value.category]; done) | rfl) ?_
  intro p e s m below meth c s₁ hml hret hnm hlk P0
  show W.Go p.tables e below _ (s₁.setTop (mkF m 0 #[.val (.ref tz), .val (.int (1 : Int32)), .val (.int p0), .val (.int vl), .val (.int dn), .val (.double ff), .second, .unset, .unset, .unset, .unset] []))
  refine W.g_iload (pc1 := 2) P0.q d7_0 rfl rfl ?_
  refine W.g_iloadN (pc1 := 3) P0.q d7_2 rfl rfl ?_
  refine P0.callS (pc1 := 6) (wd hw (k := 10) rfl) (wd hw (k := 11) rfl) (wd hw (k := 2) rfl) (wd hw (k := 12) rfl) (by decide) (W.MetN.pay (W := 0) (c_dv l Z a0 hw dn 1 h0) P0 (wd hw (k := 12) rfl) (wd hw (k := 2) rfl) (by decide) (by decide)) (argsL := [(.int dn), (.int (1 : Int32))]) (st0 := []) (lenOf pd_II_R_D rfl) rfl rfl (Nat.le_of_eq rfl) (by rw [hml]; rfl) (by decide) (by decide) (W.Pure.ok P0.chv) d7_3 rfl ?_
  intro v261 T261 h261 L261 q261 P261
  obtain ⟨rfl, rfl, rfl⟩ := q261
  show W.Go p.tables e below _ (T261.setTop (mkF m 6 #[.val (.ref tz), .val (.int (1 : Int32)), .val (.int p0), .val (.int vl), .val (.int dn), .val (.double ff), .second, .unset, .unset, .unset, .unset] [(.double (FP.i2d (own_db dn 1)))]))
  refine W.g_dstore (pc1 := 8) (ls2 := #[.val (.ref tz), .val (.int (1 : Int32)), .val (.int p0), .val (.int vl), .val (.int dn), .val (.double ff), .second, .val (.double (FP.i2d (own_db dn 1))), .second, .unset, .unset]) P261.q d7_6 rfl rfl ?_
  refine W.g_iloadN (pc1 := 9) P261.q d7_8 rfl rfl ?_
  refine W.g_iloadN (pc1 := 10) P261.q d7_9 rfl rfl ?_
  refine W.g_ishr (pc1 := 11) P261.q d7_10 rfl ?_
  refine W.g_iconst (pc1 := 12) (v := (1 : Int32)) P261.q d7_11 (by decide) rfl ?_
  refine W.g_iand (pc1 := 13) P261.q d7_12 rfl ?_
  refine W.g_ifY (pc1 := 33) P261.q d7_13 (by decide) rfl hbit ?_
  refine W.g_dload (pc1 := 35) P261.q d7_33 rfl rfl ?_
  refine W.g_dstore (pc1 := 37) (ls2 := #[.val (.ref tz), .val (.int (1 : Int32)), .val (.int p0), .val (.int vl), .val (.int dn), .val (.double ff), .second, .val (.double (FP.i2d (own_db dn 1))), .second, .val (.double (FP.i2d (own_db dn 1))), .second]) P261.q d7_35 rfl rfl ?_
  refine W.g_aloadN (pc1 := 38) P261.q d7_37 rfl rfl rfl ?_
  refine W.g_iloadN (pc1 := 39) P261.q d7_38 rfl rfl ?_
  refine P261.ldD (pc1 := 40) (v := (.double o1)) Vz (by decide) (by decide) rfl d7_39 rfl ?_
  refine W.g_dload (pc1 := 42) P261.q d7_40 rfl rfl ?_
  refine W.g_dcmp (pc1 := 43) P261.q d7_42 rfl ?_
  rw [hcmp]
  refine W.g_ifN (pc2 := 46) P261.q d7_43 rfl (by decide) ?_
  refine W.g_iconst (pc1 := 47) (v := (1 : Int32)) P261.q d7_46 (by decide) rfl ?_
  refine W.g_goto (pc1 := 51) P261.q d7_47 (by decide) rfl ?_
  exact P261.retVN hlk hret (Or.inl rfl) d7_51 (by decide) (by decide) ⟨rfl, rfl, rfl⟩
set_option maxRecDepth 65536 in
set_option maxHeartbeats 40000000 in
theorem c_chk11 (l : Launch) (Z : State) (a0 : Array Value) (hw : ∀ d ∈ tables_1, d.before a0 Z = true) (tz : Addr) (kz : ClassId) (o0 o1 o2 o3 ff : UInt64) (p0 vl dn : Int32) (hbit : ¬ ((p0 >>> ((1 : Int32) &&& 31)) &&& 1) = 0) (hf : Jvm.Free.Fl.NoNaN64 (FP.f2d (FP.i2f (own_vb vl 1)))) (hm : Jvm.Free.Fl.NoNaN64 (FP.dmul ff (FP.f2d (FP.i2f (own_vb vl 1))))) (ha : Jvm.Free.Fl.NoNaN64 (FP.dadd (FP.i2d (own_db dn 1)) (FP.dmul ff (FP.f2d (FP.i2f (own_vb vl 1)))))) (hcmp : cmpValue (FP.dcmp o1 (FP.dadd (FP.i2d (own_db dn 1)) (FP.dmul ff (FP.f2d (FP.i2f (own_vb vl 1)))))) .l = 0) (h0 : Heap) (Vz : Arv Z h0 tz kz .double 4 [.double o0, .double o1, .double o2, .double o3] (.double 0)) : W.MetN l Z (⟨"com/example/intent_search/intentsearch/rank/CategoryVectorAddToPinLaw", "check", "([DIIIID)Z"⟩ : MethodName) method_6_code 11 ((Option.some Jvm.ClassFile.FieldType.boolean)) [] ({ frames := 1, cells := 0, slots := 0, locals := 20 } : Room) #[.ref tz, .int 1, .int p0, .int vl, .int dn, .double ff]  h0 (W.Pure (some (.int 1)) h0) := by
  refine W.MetN.mk (ls0 := #[.val (.ref tz), .val (.int (1 : Int32)), .val (.int p0), .val (.int vl), .val (.int dn), .val (.double ff), .second, .unset, .unset, .unset, .unset]) [] (plainFor_of_name pn_com_example_intent_search_intentsearch_rank_CategoryVectorAddToPinLaw) (fun m => by first | (simp [entryFrame, mkF, argsToLocals, Value.category]; done) | rfl) ?_
  intro p e s m below meth c s₁ hml hret hnm hlk P0
  show W.Go p.tables e below _ (s₁.setTop (mkF m 0 #[.val (.ref tz), .val (.int (1 : Int32)), .val (.int p0), .val (.int vl), .val (.int dn), .val (.double ff), .second, .unset, .unset, .unset, .unset] []))
  refine W.g_iload (pc1 := 2) P0.q d7_0 rfl rfl ?_
  refine W.g_iloadN (pc1 := 3) P0.q d7_2 rfl rfl ?_
  refine P0.callS (pc1 := 6) (wd hw (k := 10) rfl) (wd hw (k := 11) rfl) (wd hw (k := 2) rfl) (wd hw (k := 12) rfl) (by decide) (W.MetN.pay (W := 0) (c_dv l Z a0 hw dn 1 h0) P0 (wd hw (k := 12) rfl) (wd hw (k := 2) rfl) (by decide) (by decide)) (argsL := [(.int dn), (.int (1 : Int32))]) (st0 := []) (lenOf pd_II_R_D rfl) rfl rfl (Nat.le_of_eq rfl) (by rw [hml]; rfl) (by decide) (by decide) (W.Pure.ok P0.chv) d7_3 rfl ?_
  intro v262 T262 h262 L262 q262 P262
  obtain ⟨rfl, rfl, rfl⟩ := q262
  show W.Go p.tables e below _ (T262.setTop (mkF m 6 #[.val (.ref tz), .val (.int (1 : Int32)), .val (.int p0), .val (.int vl), .val (.int dn), .val (.double ff), .second, .unset, .unset, .unset, .unset] [(.double (FP.i2d (own_db dn 1)))]))
  refine W.g_dstore (pc1 := 8) (ls2 := #[.val (.ref tz), .val (.int (1 : Int32)), .val (.int p0), .val (.int vl), .val (.int dn), .val (.double ff), .second, .val (.double (FP.i2d (own_db dn 1))), .second, .unset, .unset]) P262.q d7_6 rfl rfl ?_
  refine W.g_iloadN (pc1 := 9) P262.q d7_8 rfl rfl ?_
  refine W.g_iloadN (pc1 := 10) P262.q d7_9 rfl rfl ?_
  refine W.g_ishr (pc1 := 11) P262.q d7_10 rfl ?_
  refine W.g_iconst (pc1 := 12) (v := (1 : Int32)) P262.q d7_11 (by decide) rfl ?_
  refine W.g_iand (pc1 := 13) P262.q d7_12 rfl ?_
  refine W.g_ifN (pc2 := 16) P262.q d7_13 rfl hbit ?_
  refine W.g_dload (pc1 := 18) P262.q d7_16 rfl rfl ?_
  refine W.g_dload (pc1 := 20) P262.q d7_18 rfl rfl ?_
  refine W.g_iloadN (pc1 := 21) P262.q d7_20 rfl rfl ?_
  refine W.g_iloadN (pc1 := 22) P262.q d7_21 rfl rfl ?_
  refine P262.callS (pc1 := 25) (wd hw (k := 34) rfl) (wd hw (k := 35) rfl) (wd hw (k := 2) rfl) (wd hw (k := 36) rfl) (by decide) (W.MetN.pay (W := 4) (c_val l Z a0 hw vl 1 h0) P262 (wd hw (k := 36) rfl) (wd hw (k := 2) rfl) (by decide) (by decide)) (argsL := [(.int vl), (.int (1 : Int32))]) (st0 := [(.double ff), (.double (FP.i2d (own_db dn 1)))]) (lenOf pd_II_R_F rfl) rfl rfl (Nat.le_of_eq rfl) (by rw [hml]; rfl) (by decide) (by decide) (W.Pure.ok P262.chv) d7_22 rfl ?_
  intro v263 T263 h263 L263 q263 P263
  obtain ⟨rfl, rfl, rfl⟩ := q263
  show W.Go p.tables e below _ (T263.setTop (mkF m 25 #[.val (.ref tz), .val (.int (1 : Int32)), .val (.int p0), .val (.int vl), .val (.int dn), .val (.double ff), .second, .val (.double (FP.i2d (own_db dn 1))), .second, .unset, .unset] [(.float (FP.i2f (own_vb vl 1))), (.double ff), (.double (FP.i2d (own_db dn 1)))]))
  refine W.g_f2d (pc1 := 26) P263.q d7_25 hf rfl ?_
  refine W.g_dmul (pc1 := 27) P263.q d7_26 hm rfl ?_
  refine W.g_dadd (pc1 := 28) P263.q d7_27 ha rfl ?_
  refine W.g_dstore (pc1 := 30) (ls2 := #[.val (.ref tz), .val (.int (1 : Int32)), .val (.int p0), .val (.int vl), .val (.int dn), .val (.double ff), .second, .val (.double (FP.i2d (own_db dn 1))), .second, .val (.double (FP.dadd (FP.i2d (own_db dn 1)) (FP.dmul ff (FP.f2d (FP.i2f (own_vb vl 1)))))), .second]) P263.q d7_28 rfl rfl ?_
  refine W.g_goto (pc1 := 37) P263.q d7_30 (by decide) rfl ?_
  refine W.g_aloadN (pc1 := 38) P263.q d7_37 rfl rfl rfl ?_
  refine W.g_iloadN (pc1 := 39) P263.q d7_38 rfl rfl ?_
  refine P263.ldD (pc1 := 40) (v := (.double o1)) Vz (by decide) (by decide) rfl d7_39 rfl ?_
  refine W.g_dload (pc1 := 42) P263.q d7_40 rfl rfl ?_
  refine W.g_dcmp (pc1 := 43) P263.q d7_42 rfl ?_
  rw [hcmp]
  refine W.g_ifN (pc2 := 46) P263.q d7_43 rfl (by decide) ?_
  refine W.g_iconst (pc1 := 47) (v := (1 : Int32)) P263.q d7_46 (by decide) rfl ?_
  refine W.g_goto (pc1 := 51) P263.q d7_47 (by decide) rfl ?_
  exact P263.retVN hlk hret (Or.inl rfl) d7_51 (by decide) (by decide) ⟨rfl, rfl, rfl⟩
set_option maxRecDepth 65536 in
set_option maxHeartbeats 40000000 in
theorem c_chk20 (l : Launch) (Z : State) (a0 : Array Value) (hw : ∀ d ∈ tables_1, d.before a0 Z = true) (tz : Addr) (kz : ClassId) (o0 o1 o2 o3 ff : UInt64) (p0 vl dn : Int32) (hbit : ((p0 >>> ((2 : Int32) &&& 31)) &&& 1) = 0) (hcmp : cmpValue (FP.dcmp o2 (FP.i2d (own_db dn 2))) .l = 0) (h0 : Heap) (Vz : Arv Z h0 tz kz .double 4 [.double o0, .double o1, .double o2, .double o3] (.double 0)) : W.MetN l Z (⟨"com/example/intent_search/intentsearch/rank/CategoryVectorAddToPinLaw", "check", "([DIIIID)Z"⟩ : MethodName) method_6_code 11 ((Option.some Jvm.ClassFile.FieldType.boolean)) [] ({ frames := 1, cells := 0, slots := 0, locals := 20 } : Room) #[.ref tz, .int 2, .int p0, .int vl, .int dn, .double ff]  h0 (W.Pure (some (.int 1)) h0) := by
  refine W.MetN.mk (ls0 := #[.val (.ref tz), .val (.int (2 : Int32)), .val (.int p0), .val (.int vl), .val (.int dn), .val (.double ff), .second, .unset, .unset, .unset, .unset]) [] (plainFor_of_name pn_com_example_intent_search_intentsearch_rank_CategoryVectorAddToPinLaw) (fun m => by first | (simp [entryFrame, mkF, argsToLocals, Value.category]; done) | rfl) ?_
  intro p e s m below meth c s₁ hml hret hnm hlk P0
  show W.Go p.tables e below _ (s₁.setTop (mkF m 0 #[.val (.ref tz), .val (.int (2 : Int32)), .val (.int p0), .val (.int vl), .val (.int dn), .val (.double ff), .second, .unset, .unset, .unset, .unset] []))
  refine W.g_iload (pc1 := 2) P0.q d7_0 rfl rfl ?_
  refine W.g_iloadN (pc1 := 3) P0.q d7_2 rfl rfl ?_
  refine P0.callS (pc1 := 6) (wd hw (k := 10) rfl) (wd hw (k := 11) rfl) (wd hw (k := 2) rfl) (wd hw (k := 12) rfl) (by decide) (W.MetN.pay (W := 0) (c_dv l Z a0 hw dn 2 h0) P0 (wd hw (k := 12) rfl) (wd hw (k := 2) rfl) (by decide) (by decide)) (argsL := [(.int dn), (.int (2 : Int32))]) (st0 := []) (lenOf pd_II_R_D rfl) rfl rfl (Nat.le_of_eq rfl) (by rw [hml]; rfl) (by decide) (by decide) (W.Pure.ok P0.chv) d7_3 rfl ?_
  intro v264 T264 h264 L264 q264 P264
  obtain ⟨rfl, rfl, rfl⟩ := q264
  show W.Go p.tables e below _ (T264.setTop (mkF m 6 #[.val (.ref tz), .val (.int (2 : Int32)), .val (.int p0), .val (.int vl), .val (.int dn), .val (.double ff), .second, .unset, .unset, .unset, .unset] [(.double (FP.i2d (own_db dn 2)))]))
  refine W.g_dstore (pc1 := 8) (ls2 := #[.val (.ref tz), .val (.int (2 : Int32)), .val (.int p0), .val (.int vl), .val (.int dn), .val (.double ff), .second, .val (.double (FP.i2d (own_db dn 2))), .second, .unset, .unset]) P264.q d7_6 rfl rfl ?_
  refine W.g_iloadN (pc1 := 9) P264.q d7_8 rfl rfl ?_
  refine W.g_iloadN (pc1 := 10) P264.q d7_9 rfl rfl ?_
  refine W.g_ishr (pc1 := 11) P264.q d7_10 rfl ?_
  refine W.g_iconst (pc1 := 12) (v := (1 : Int32)) P264.q d7_11 (by decide) rfl ?_
  refine W.g_iand (pc1 := 13) P264.q d7_12 rfl ?_
  refine W.g_ifY (pc1 := 33) P264.q d7_13 (by decide) rfl hbit ?_
  refine W.g_dload (pc1 := 35) P264.q d7_33 rfl rfl ?_
  refine W.g_dstore (pc1 := 37) (ls2 := #[.val (.ref tz), .val (.int (2 : Int32)), .val (.int p0), .val (.int vl), .val (.int dn), .val (.double ff), .second, .val (.double (FP.i2d (own_db dn 2))), .second, .val (.double (FP.i2d (own_db dn 2))), .second]) P264.q d7_35 rfl rfl ?_
  refine W.g_aloadN (pc1 := 38) P264.q d7_37 rfl rfl rfl ?_
  refine W.g_iloadN (pc1 := 39) P264.q d7_38 rfl rfl ?_
  refine P264.ldD (pc1 := 40) (v := (.double o2)) Vz (by decide) (by decide) rfl d7_39 rfl ?_
  refine W.g_dload (pc1 := 42) P264.q d7_40 rfl rfl ?_
  refine W.g_dcmp (pc1 := 43) P264.q d7_42 rfl ?_
  rw [hcmp]
  refine W.g_ifN (pc2 := 46) P264.q d7_43 rfl (by decide) ?_
  refine W.g_iconst (pc1 := 47) (v := (1 : Int32)) P264.q d7_46 (by decide) rfl ?_
  refine W.g_goto (pc1 := 51) P264.q d7_47 (by decide) rfl ?_
  exact P264.retVN hlk hret (Or.inl rfl) d7_51 (by decide) (by decide) ⟨rfl, rfl, rfl⟩
set_option maxRecDepth 65536 in
set_option maxHeartbeats 40000000 in
theorem c_chk21 (l : Launch) (Z : State) (a0 : Array Value) (hw : ∀ d ∈ tables_1, d.before a0 Z = true) (tz : Addr) (kz : ClassId) (o0 o1 o2 o3 ff : UInt64) (p0 vl dn : Int32) (hbit : ¬ ((p0 >>> ((2 : Int32) &&& 31)) &&& 1) = 0) (hf : Jvm.Free.Fl.NoNaN64 (FP.f2d (FP.i2f (own_vb vl 2)))) (hm : Jvm.Free.Fl.NoNaN64 (FP.dmul ff (FP.f2d (FP.i2f (own_vb vl 2))))) (ha : Jvm.Free.Fl.NoNaN64 (FP.dadd (FP.i2d (own_db dn 2)) (FP.dmul ff (FP.f2d (FP.i2f (own_vb vl 2)))))) (hcmp : cmpValue (FP.dcmp o2 (FP.dadd (FP.i2d (own_db dn 2)) (FP.dmul ff (FP.f2d (FP.i2f (own_vb vl 2)))))) .l = 0) (h0 : Heap) (Vz : Arv Z h0 tz kz .double 4 [.double o0, .double o1, .double o2, .double o3] (.double 0)) : W.MetN l Z (⟨"com/example/intent_search/intentsearch/rank/CategoryVectorAddToPinLaw", "check", "([DIIIID)Z"⟩ : MethodName) method_6_code 11 ((Option.some Jvm.ClassFile.FieldType.boolean)) [] ({ frames := 1, cells := 0, slots := 0, locals := 20 } : Room) #[.ref tz, .int 2, .int p0, .int vl, .int dn, .double ff]  h0 (W.Pure (some (.int 1)) h0) := by
  refine W.MetN.mk (ls0 := #[.val (.ref tz), .val (.int (2 : Int32)), .val (.int p0), .val (.int vl), .val (.int dn), .val (.double ff), .second, .unset, .unset, .unset, .unset]) [] (plainFor_of_name pn_com_example_intent_search_intentsearch_rank_CategoryVectorAddToPinLaw) (fun m => by first | (simp [entryFrame, mkF, argsToLocals, Value.category]; done) | rfl) ?_
  intro p e s m below meth c s₁ hml hret hnm hlk P0
  show W.Go p.tables e below _ (s₁.setTop (mkF m 0 #[.val (.ref tz), .val (.int (2 : Int32)), .val (.int p0), .val (.int vl), .val (.int dn), .val (.double ff), .second, .unset, .unset, .unset, .unset] []))
  refine W.g_iload (pc1 := 2) P0.q d7_0 rfl rfl ?_
  refine W.g_iloadN (pc1 := 3) P0.q d7_2 rfl rfl ?_
  refine P0.callS (pc1 := 6) (wd hw (k := 10) rfl) (wd hw (k := 11) rfl) (wd hw (k := 2) rfl) (wd hw (k := 12) rfl) (by decide) (W.MetN.pay (W := 0) (c_dv l Z a0 hw dn 2 h0) P0 (wd hw (k := 12) rfl) (wd hw (k := 2) rfl) (by decide) (by decide)) (argsL := [(.int dn), (.int (2 : Int32))]) (st0 := []) (lenOf pd_II_R_D rfl) rfl rfl (Nat.le_of_eq rfl) (by rw [hml]; rfl) (by decide) (by decide) (W.Pure.ok P0.chv) d7_3 rfl ?_
  intro v265 T265 h265 L265 q265 P265
  obtain ⟨rfl, rfl, rfl⟩ := q265
  show W.Go p.tables e below _ (T265.setTop (mkF m 6 #[.val (.ref tz), .val (.int (2 : Int32)), .val (.int p0), .val (.int vl), .val (.int dn), .val (.double ff), .second, .unset, .unset, .unset, .unset] [(.double (FP.i2d (own_db dn 2)))]))
  refine W.g_dstore (pc1 := 8) (ls2 := #[.val (.ref tz), .val (.int (2 : Int32)), .val (.int p0), .val (.int vl), .val (.int dn), .val (.double ff), .second, .val (.double (FP.i2d (own_db dn 2))), .second, .unset, .unset]) P265.q d7_6 rfl rfl ?_
  refine W.g_iloadN (pc1 := 9) P265.q d7_8 rfl rfl ?_
  refine W.g_iloadN (pc1 := 10) P265.q d7_9 rfl rfl ?_
  refine W.g_ishr (pc1 := 11) P265.q d7_10 rfl ?_
  refine W.g_iconst (pc1 := 12) (v := (1 : Int32)) P265.q d7_11 (by decide) rfl ?_
  refine W.g_iand (pc1 := 13) P265.q d7_12 rfl ?_
  refine W.g_ifN (pc2 := 16) P265.q d7_13 rfl hbit ?_
  refine W.g_dload (pc1 := 18) P265.q d7_16 rfl rfl ?_
  refine W.g_dload (pc1 := 20) P265.q d7_18 rfl rfl ?_
  refine W.g_iloadN (pc1 := 21) P265.q d7_20 rfl rfl ?_
  refine W.g_iloadN (pc1 := 22) P265.q d7_21 rfl rfl ?_
  refine P265.callS (pc1 := 25) (wd hw (k := 34) rfl) (wd hw (k := 35) rfl) (wd hw (k := 2) rfl) (wd hw (k := 36) rfl) (by decide) (W.MetN.pay (W := 4) (c_val l Z a0 hw vl 2 h0) P265 (wd hw (k := 36) rfl) (wd hw (k := 2) rfl) (by decide) (by decide)) (argsL := [(.int vl), (.int (2 : Int32))]) (st0 := [(.double ff), (.double (FP.i2d (own_db dn 2)))]) (lenOf pd_II_R_F rfl) rfl rfl (Nat.le_of_eq rfl) (by rw [hml]; rfl) (by decide) (by decide) (W.Pure.ok P265.chv) d7_22 rfl ?_
  intro v266 T266 h266 L266 q266 P266
  obtain ⟨rfl, rfl, rfl⟩ := q266
  show W.Go p.tables e below _ (T266.setTop (mkF m 25 #[.val (.ref tz), .val (.int (2 : Int32)), .val (.int p0), .val (.int vl), .val (.int dn), .val (.double ff), .second, .val (.double (FP.i2d (own_db dn 2))), .second, .unset, .unset] [(.float (FP.i2f (own_vb vl 2))), (.double ff), (.double (FP.i2d (own_db dn 2)))]))
  refine W.g_f2d (pc1 := 26) P266.q d7_25 hf rfl ?_
  refine W.g_dmul (pc1 := 27) P266.q d7_26 hm rfl ?_
  refine W.g_dadd (pc1 := 28) P266.q d7_27 ha rfl ?_
  refine W.g_dstore (pc1 := 30) (ls2 := #[.val (.ref tz), .val (.int (2 : Int32)), .val (.int p0), .val (.int vl), .val (.int dn), .val (.double ff), .second, .val (.double (FP.i2d (own_db dn 2))), .second, .val (.double (FP.dadd (FP.i2d (own_db dn 2)) (FP.dmul ff (FP.f2d (FP.i2f (own_vb vl 2)))))), .second]) P266.q d7_28 rfl rfl ?_
  refine W.g_goto (pc1 := 37) P266.q d7_30 (by decide) rfl ?_
  refine W.g_aloadN (pc1 := 38) P266.q d7_37 rfl rfl rfl ?_
  refine W.g_iloadN (pc1 := 39) P266.q d7_38 rfl rfl ?_
  refine P266.ldD (pc1 := 40) (v := (.double o2)) Vz (by decide) (by decide) rfl d7_39 rfl ?_
  refine W.g_dload (pc1 := 42) P266.q d7_40 rfl rfl ?_
  refine W.g_dcmp (pc1 := 43) P266.q d7_42 rfl ?_
  rw [hcmp]
  refine W.g_ifN (pc2 := 46) P266.q d7_43 rfl (by decide) ?_
  refine W.g_iconst (pc1 := 47) (v := (1 : Int32)) P266.q d7_46 (by decide) rfl ?_
  refine W.g_goto (pc1 := 51) P266.q d7_47 (by decide) rfl ?_
  exact P266.retVN hlk hret (Or.inl rfl) d7_51 (by decide) (by decide) ⟨rfl, rfl, rfl⟩
set_option maxRecDepth 65536 in
set_option maxHeartbeats 40000000 in
theorem c_chk30 (l : Launch) (Z : State) (a0 : Array Value) (hw : ∀ d ∈ tables_1, d.before a0 Z = true) (tz : Addr) (kz : ClassId) (o0 o1 o2 o3 ff : UInt64) (p0 vl dn : Int32) (hbit : ((p0 >>> ((3 : Int32) &&& 31)) &&& 1) = 0) (hcmp : cmpValue (FP.dcmp o3 (FP.i2d (own_db dn 3))) .l = 0) (h0 : Heap) (Vz : Arv Z h0 tz kz .double 4 [.double o0, .double o1, .double o2, .double o3] (.double 0)) : W.MetN l Z (⟨"com/example/intent_search/intentsearch/rank/CategoryVectorAddToPinLaw", "check", "([DIIIID)Z"⟩ : MethodName) method_6_code 11 ((Option.some Jvm.ClassFile.FieldType.boolean)) [] ({ frames := 1, cells := 0, slots := 0, locals := 20 } : Room) #[.ref tz, .int 3, .int p0, .int vl, .int dn, .double ff]  h0 (W.Pure (some (.int 1)) h0) := by
  refine W.MetN.mk (ls0 := #[.val (.ref tz), .val (.int (3 : Int32)), .val (.int p0), .val (.int vl), .val (.int dn), .val (.double ff), .second, .unset, .unset, .unset, .unset]) [] (plainFor_of_name pn_com_example_intent_search_intentsearch_rank_CategoryVectorAddToPinLaw) (fun m => by first | (simp [entryFrame, mkF, argsToLocals, Value.category]; done) | rfl) ?_
  intro p e s m below meth c s₁ hml hret hnm hlk P0
  show W.Go p.tables e below _ (s₁.setTop (mkF m 0 #[.val (.ref tz), .val (.int (3 : Int32)), .val (.int p0), .val (.int vl), .val (.int dn), .val (.double ff), .second, .unset, .unset, .unset, .unset] []))
  refine W.g_iload (pc1 := 2) P0.q d7_0 rfl rfl ?_
  refine W.g_iloadN (pc1 := 3) P0.q d7_2 rfl rfl ?_
  refine P0.callS (pc1 := 6) (wd hw (k := 10) rfl) (wd hw (k := 11) rfl) (wd hw (k := 2) rfl) (wd hw (k := 12) rfl) (by decide) (W.MetN.pay (W := 0) (c_dv l Z a0 hw dn 3 h0) P0 (wd hw (k := 12) rfl) (wd hw (k := 2) rfl) (by decide) (by decide)) (argsL := [(.int dn), (.int (3 : Int32))]) (st0 := []) (lenOf pd_II_R_D rfl) rfl rfl (Nat.le_of_eq rfl) (by rw [hml]; rfl) (by decide) (by decide) (W.Pure.ok P0.chv) d7_3 rfl ?_
  intro v267 T267 h267 L267 q267 P267
  obtain ⟨rfl, rfl, rfl⟩ := q267
  show W.Go p.tables e below _ (T267.setTop (mkF m 6 #[.val (.ref tz), .val (.int (3 : Int32)), .val (.int p0), .val (.int vl), .val (.int dn), .val (.double ff), .second, .unset, .unset, .unset, .unset] [(.double (FP.i2d (own_db dn 3)))]))
  refine W.g_dstore (pc1 := 8) (ls2 := #[.val (.ref tz), .val (.int (3 : Int32)), .val (.int p0), .val (.int vl), .val (.int dn), .val (.double ff), .second, .val (.double (FP.i2d (own_db dn 3))), .second, .unset, .unset]) P267.q d7_6 rfl rfl ?_
  refine W.g_iloadN (pc1 := 9) P267.q d7_8 rfl rfl ?_
  refine W.g_iloadN (pc1 := 10) P267.q d7_9 rfl rfl ?_
  refine W.g_ishr (pc1 := 11) P267.q d7_10 rfl ?_
  refine W.g_iconst (pc1 := 12) (v := (1 : Int32)) P267.q d7_11 (by decide) rfl ?_
  refine W.g_iand (pc1 := 13) P267.q d7_12 rfl ?_
  refine W.g_ifY (pc1 := 33) P267.q d7_13 (by decide) rfl hbit ?_
  refine W.g_dload (pc1 := 35) P267.q d7_33 rfl rfl ?_
  refine W.g_dstore (pc1 := 37) (ls2 := #[.val (.ref tz), .val (.int (3 : Int32)), .val (.int p0), .val (.int vl), .val (.int dn), .val (.double ff), .second, .val (.double (FP.i2d (own_db dn 3))), .second, .val (.double (FP.i2d (own_db dn 3))), .second]) P267.q d7_35 rfl rfl ?_
  refine W.g_aloadN (pc1 := 38) P267.q d7_37 rfl rfl rfl ?_
  refine W.g_iloadN (pc1 := 39) P267.q d7_38 rfl rfl ?_
  refine P267.ldD (pc1 := 40) (v := (.double o3)) Vz (by decide) (by decide) rfl d7_39 rfl ?_
  refine W.g_dload (pc1 := 42) P267.q d7_40 rfl rfl ?_
  refine W.g_dcmp (pc1 := 43) P267.q d7_42 rfl ?_
  rw [hcmp]
  refine W.g_ifN (pc2 := 46) P267.q d7_43 rfl (by decide) ?_
  refine W.g_iconst (pc1 := 47) (v := (1 : Int32)) P267.q d7_46 (by decide) rfl ?_
  refine W.g_goto (pc1 := 51) P267.q d7_47 (by decide) rfl ?_
  exact P267.retVN hlk hret (Or.inl rfl) d7_51 (by decide) (by decide) ⟨rfl, rfl, rfl⟩
set_option maxRecDepth 65536 in
set_option maxHeartbeats 40000000 in
theorem c_chk31 (l : Launch) (Z : State) (a0 : Array Value) (hw : ∀ d ∈ tables_1, d.before a0 Z = true) (tz : Addr) (kz : ClassId) (o0 o1 o2 o3 ff : UInt64) (p0 vl dn : Int32) (hbit : ¬ ((p0 >>> ((3 : Int32) &&& 31)) &&& 1) = 0) (hf : Jvm.Free.Fl.NoNaN64 (FP.f2d (FP.i2f (own_vb vl 3)))) (hm : Jvm.Free.Fl.NoNaN64 (FP.dmul ff (FP.f2d (FP.i2f (own_vb vl 3))))) (ha : Jvm.Free.Fl.NoNaN64 (FP.dadd (FP.i2d (own_db dn 3)) (FP.dmul ff (FP.f2d (FP.i2f (own_vb vl 3)))))) (hcmp : cmpValue (FP.dcmp o3 (FP.dadd (FP.i2d (own_db dn 3)) (FP.dmul ff (FP.f2d (FP.i2f (own_vb vl 3)))))) .l = 0) (h0 : Heap) (Vz : Arv Z h0 tz kz .double 4 [.double o0, .double o1, .double o2, .double o3] (.double 0)) : W.MetN l Z (⟨"com/example/intent_search/intentsearch/rank/CategoryVectorAddToPinLaw", "check", "([DIIIID)Z"⟩ : MethodName) method_6_code 11 ((Option.some Jvm.ClassFile.FieldType.boolean)) [] ({ frames := 1, cells := 0, slots := 0, locals := 20 } : Room) #[.ref tz, .int 3, .int p0, .int vl, .int dn, .double ff]  h0 (W.Pure (some (.int 1)) h0) := by
  refine W.MetN.mk (ls0 := #[.val (.ref tz), .val (.int (3 : Int32)), .val (.int p0), .val (.int vl), .val (.int dn), .val (.double ff), .second, .unset, .unset, .unset, .unset]) [] (plainFor_of_name pn_com_example_intent_search_intentsearch_rank_CategoryVectorAddToPinLaw) (fun m => by first | (simp [entryFrame, mkF, argsToLocals, Value.category]; done) | rfl) ?_
  intro p e s m below meth c s₁ hml hret hnm hlk P0
  show W.Go p.tables e below _ (s₁.setTop (mkF m 0 #[.val (.ref tz), .val (.int (3 : Int32)), .val (.int p0), .val (.int vl), .val (.int dn), .val (.double ff), .second, .unset, .unset, .unset, .unset] []))
  refine W.g_iload (pc1 := 2) P0.q d7_0 rfl rfl ?_
  refine W.g_iloadN (pc1 := 3) P0.q d7_2 rfl rfl ?_
  refine P0.callS (pc1 := 6) (wd hw (k := 10) rfl) (wd hw (k := 11) rfl) (wd hw (k := 2) rfl) (wd hw (k := 12) rfl) (by decide) (W.MetN.pay (W := 0) (c_dv l Z a0 hw dn 3 h0) P0 (wd hw (k := 12) rfl) (wd hw (k := 2) rfl) (by decide) (by decide)) (argsL := [(.int dn), (.int (3 : Int32))]) (st0 := []) (lenOf pd_II_R_D rfl) rfl rfl (Nat.le_of_eq rfl) (by rw [hml]; rfl) (by decide) (by decide) (W.Pure.ok P0.chv) d7_3 rfl ?_
  intro v268 T268 h268 L268 q268 P268
  obtain ⟨rfl, rfl, rfl⟩ := q268
  show W.Go p.tables e below _ (T268.setTop (mkF m 6 #[.val (.ref tz), .val (.int (3 : Int32)), .val (.int p0), .val (.int vl), .val (.int dn), .val (.double ff), .second, .unset, .unset, .unset, .unset] [(.double (FP.i2d (own_db dn 3)))]))
  refine W.g_dstore (pc1 := 8) (ls2 := #[.val (.ref tz), .val (.int (3 : Int32)), .val (.int p0), .val (.int vl), .val (.int dn), .val (.double ff), .second, .val (.double (FP.i2d (own_db dn 3))), .second, .unset, .unset]) P268.q d7_6 rfl rfl ?_
  refine W.g_iloadN (pc1 := 9) P268.q d7_8 rfl rfl ?_
  refine W.g_iloadN (pc1 := 10) P268.q d7_9 rfl rfl ?_
  refine W.g_ishr (pc1 := 11) P268.q d7_10 rfl ?_
  refine W.g_iconst (pc1 := 12) (v := (1 : Int32)) P268.q d7_11 (by decide) rfl ?_
  refine W.g_iand (pc1 := 13) P268.q d7_12 rfl ?_
  refine W.g_ifN (pc2 := 16) P268.q d7_13 rfl hbit ?_
  refine W.g_dload (pc1 := 18) P268.q d7_16 rfl rfl ?_
  refine W.g_dload (pc1 := 20) P268.q d7_18 rfl rfl ?_
  refine W.g_iloadN (pc1 := 21) P268.q d7_20 rfl rfl ?_
  refine W.g_iloadN (pc1 := 22) P268.q d7_21 rfl rfl ?_
  refine P268.callS (pc1 := 25) (wd hw (k := 34) rfl) (wd hw (k := 35) rfl) (wd hw (k := 2) rfl) (wd hw (k := 36) rfl) (by decide) (W.MetN.pay (W := 4) (c_val l Z a0 hw vl 3 h0) P268 (wd hw (k := 36) rfl) (wd hw (k := 2) rfl) (by decide) (by decide)) (argsL := [(.int vl), (.int (3 : Int32))]) (st0 := [(.double ff), (.double (FP.i2d (own_db dn 3)))]) (lenOf pd_II_R_F rfl) rfl rfl (Nat.le_of_eq rfl) (by rw [hml]; rfl) (by decide) (by decide) (W.Pure.ok P268.chv) d7_22 rfl ?_
  intro v269 T269 h269 L269 q269 P269
  obtain ⟨rfl, rfl, rfl⟩ := q269
  show W.Go p.tables e below _ (T269.setTop (mkF m 25 #[.val (.ref tz), .val (.int (3 : Int32)), .val (.int p0), .val (.int vl), .val (.int dn), .val (.double ff), .second, .val (.double (FP.i2d (own_db dn 3))), .second, .unset, .unset] [(.float (FP.i2f (own_vb vl 3))), (.double ff), (.double (FP.i2d (own_db dn 3)))]))
  refine W.g_f2d (pc1 := 26) P269.q d7_25 hf rfl ?_
  refine W.g_dmul (pc1 := 27) P269.q d7_26 hm rfl ?_
  refine W.g_dadd (pc1 := 28) P269.q d7_27 ha rfl ?_
  refine W.g_dstore (pc1 := 30) (ls2 := #[.val (.ref tz), .val (.int (3 : Int32)), .val (.int p0), .val (.int vl), .val (.int dn), .val (.double ff), .second, .val (.double (FP.i2d (own_db dn 3))), .second, .val (.double (FP.dadd (FP.i2d (own_db dn 3)) (FP.dmul ff (FP.f2d (FP.i2f (own_vb vl 3)))))), .second]) P269.q d7_28 rfl rfl ?_
  refine W.g_goto (pc1 := 37) P269.q d7_30 (by decide) rfl ?_
  refine W.g_aloadN (pc1 := 38) P269.q d7_37 rfl rfl rfl ?_
  refine W.g_iloadN (pc1 := 39) P269.q d7_38 rfl rfl ?_
  refine P269.ldD (pc1 := 40) (v := (.double o3)) Vz (by decide) (by decide) rfl d7_39 rfl ?_
  refine W.g_dload (pc1 := 42) P269.q d7_40 rfl rfl ?_
  refine W.g_dcmp (pc1 := 43) P269.q d7_42 rfl ?_
  rw [hcmp]
  refine W.g_ifN (pc2 := 46) P269.q d7_43 rfl (by decide) ?_
  refine W.g_iconst (pc1 := 47) (v := (1 : Int32)) P269.q d7_46 (by decide) rfl ?_
  refine W.g_goto (pc1 := 51) P269.q d7_47 (by decide) rfl ?_
  exact P269.retVN hlk hret (Or.inl rfl) d7_51 (by decide) (by decide) ⟨rfl, rfl, rfl⟩
def Q1 (n : Nat) (v : Option Value) (h : Heap) (L : List Loc) : Prop := v = some (.int 1) ∧ W.Frw [] n L
set_option maxRecDepth 65536 in
set_option maxHeartbeats 40000000 in
theorem rm1 (l : Launch) (Z : State) (a0 : Array Value) (hw : ∀ d ∈ tables_1, d.before a0 Z = true) (pr vl fc dn : Int32) (h0 : Heap) : W.MetN l Z x code maxLocals (ret) tables_1 room_1 #[.int pr, .int vl, .int fc, .int dn]  h0 (Q1 h0.size) := by
  refine W.MetN.mk (ls0 := #[.val (.int pr), .val (.int vl), .val (.int fc), .val (.int dn), .unset, .unset, .unset, .unset, .unset, .unset, .unset, .unset, .unset]) [] (plainFor_of_name pn_com_example_intent_search_intentsearch_rank_CategoryVectorAddToPinLaw) (fun m => by first | (simp [entryFrame, mkF, argsToLocals, Value.category, maxLocals]; done) | rfl) ?_
  intro p e s m below meth c s₁ hml hret hnm hlk P0
  have hml : c.maxLocals = 13 := hml
  show W.Go p.tables e below _ (s₁.setTop (mkF m 0 #[.val (.int pr), .val (.int vl), .val (.int fc), .val (.int dn), .unset, .unset, .unset, .unset, .unset, .unset, .unset, .unset, .unset] []))
  refine W.g_iloadN (pc1 := 1) P0.q at_0 rfl rfl ?_
  refine W.g_bipush (pc1 := 3) (v := (15 : Int32)) P0.q at_1 (by decide) rfl ?_
  refine W.g_iand (pc1 := 4) P0.q at_3 rfl ?_
  have hr := own_mask15 pr
  generalize (pr &&& 15) = pm at hr
  show W.Go p.tables e below _ (s₁.setTop (mkF m 4 #[.val (.int pr), .val (.int vl), .val (.int fc), .val (.int dn), .unset, .unset, .unset, .unset, .unset, .unset, .unset, .unset, .unset] [(.int pm)]))
  rcases hr with rfl | rfl | rfl | rfl | rfl | rfl | rfl | rfl | rfl | rfl | rfl | rfl | rfl | rfl | rfl | rfl
  · show W.Go p.tables e below _ (s₁.setTop (mkF m 4 #[.val (.int pr), .val (.int vl), .val (.int fc), .val (.int dn), .unset, .unset, .unset, .unset, .unset, .unset, .unset, .unset, .unset] [(.int (0 : Int32))]))
    refine W.g_istore (pc1 := 6) (ls2 := #[.val (.int pr), .val (.int vl), .val (.int fc), .val (.int dn), .val (.int (0 : Int32)), .unset, .unset, .unset, .unset, .unset, .unset, .unset, .unset]) P0.q at_4 rfl rfl ?_
    refine W.g_iload (pc1 := 8) P0.q at_6 rfl rfl ?_
    refine W.g_iconst (pc1 := 9) (v := (1 : Int32)) P0.q at_8 (by decide) rfl ?_
    refine W.g_iand (pc1 := 10) P0.q at_9 rfl ?_
    refine W.g_iload (pc1 := 12) P0.q at_10 rfl rfl ?_
    refine W.g_iconst (pc1 := 13) (v := (1 : Int32)) P0.q at_12 (by decide) rfl ?_
    refine W.g_ishr (pc1 := 14) P0.q at_13 rfl ?_
    refine W.g_iconst (pc1 := 15) (v := (1 : Int32)) P0.q at_14 (by decide) rfl ?_
    refine W.g_iand (pc1 := 16) P0.q at_15 rfl ?_
    refine W.g_iadd (pc1 := 17) P0.q at_16 rfl ?_
    refine W.g_iload (pc1 := 19) P0.q at_17 rfl rfl ?_
    refine W.g_iconst (pc1 := 20) (v := (2 : Int32)) P0.q at_19 (by decide) rfl ?_
    refine W.g_ishr (pc1 := 21) P0.q at_20 rfl ?_
    refine W.g_iconst (pc1 := 22) (v := (1 : Int32)) P0.q at_21 (by decide) rfl ?_
    refine W.g_iand (pc1 := 23) P0.q at_22 rfl ?_
    refine W.g_iadd (pc1 := 24) P0.q at_23 rfl ?_
    refine W.g_iload (pc1 := 26) P0.q at_24 rfl rfl ?_
    refine W.g_iconst (pc1 := 27) (v := (3 : Int32)) P0.q at_26 (by decide) rfl ?_
    refine W.g_ishr (pc1 := 28) P0.q at_27 rfl ?_
    refine W.g_iconst (pc1 := 29) (v := (1 : Int32)) P0.q at_28 (by decide) rfl ?_
    refine W.g_iand (pc1 := 30) P0.q at_29 rfl ?_
    refine W.g_iadd (pc1 := 31) P0.q at_30 rfl ?_
    rw [show (((((0 : Int32) &&& (1 : Int32)) + (((0 : Int32) >>> ((1 : Int32) &&& 31)) &&& (1 : Int32))) + (((0 : Int32) >>> ((2 : Int32) &&& 31)) &&& (1 : Int32))) + (((0 : Int32) >>> ((3 : Int32) &&& 31)) &&& (1 : Int32))) = (0 : Int32) from by decide]
    refine W.g_istore (pc1 := 33) (ls2 := #[.val (.int pr), .val (.int vl), .val (.int fc), .val (.int dn), .val (.int (0 : Int32)), .val (.int (0 : Int32)), .unset, .unset, .unset, .unset, .unset, .unset, .unset]) P0.q at_31 rfl rfl ?_
    refine W.g_iload (pc1 := 35) P0.q at_33 rfl rfl ?_
    refine P0.callS (pc1 := 38) (wd hw (k := 0) rfl) (wd hw (k := 1) rfl) (wd hw (k := 2) rfl) (wd hw (k := 3) rfl) (by decide) (W.MetN.pay (W := 0) (c_ni0 l Z a0 hw h0) P0 (wd hw (k := 3) rfl) (wd hw (k := 2) rfl) (by decide) (by decide)) (argsL := [(.int (0 : Int32))]) (st0 := []) (lenOf pd_I_R_AI rfl) rfl rfl (Nat.le_of_eq rfl) (by rw [hml]; rfl) (by decide) (by decide) (fun _ _ _ q => by obtain ⟨_, _, _, q2, q3, _⟩ := q; exact ⟨q2.up P0.sz all0, CHr.keep (W.Ext.toKeep q3 []) sf0 P0.chv⟩) at_35 rfl ?_
    intro v270 T270 h270 L270 q270 P270
    obtain ⟨t270, k270, rfl, f270, E270, g270, V270⟩ := q270
    show W.Go p.tables e below _ (T270.setTop (mkF m 38 #[.val (.int pr), .val (.int vl), .val (.int fc), .val (.int dn), .val (.int (0 : Int32)), .val (.int (0 : Int32)), .unset, .unset, .unset, .unset, .unset, .unset, .unset] [(.ref t270)]))
    refine W.g_astore (pc1 := 40) (ls2 := #[.val (.int pr), .val (.int vl), .val (.int fc), .val (.int dn), .val (.int (0 : Int32)), .val (.int (0 : Int32)), .val (.ref t270), .unset, .unset, .unset, .unset, .unset, .unset]) P270.q at_38 rfl rfl rfl ?_
    refine W.g_iload (pc1 := 42) P270.q at_40 rfl rfl ?_
    refine P270.callS (pc1 := 45) (wd hw (k := 5) rfl) (wd hw (k := 6) rfl) (wd hw (k := 2) rfl) (wd hw (k := 7) rfl) (by decide) (W.MetN.pay (W := 0) (c_nf0 l Z a0 hw h270) P270 (wd hw (k := 7) rfl) (wd hw (k := 2) rfl) (by decide) (by decide)) (argsL := [(.int (0 : Int32))]) (st0 := []) (lenOf pd_I_R_AF rfl) rfl rfl (Nat.le_of_eq rfl) (by rw [hml]; rfl) (by decide) (by decide) (fun _ _ _ q => by obtain ⟨_, _, _, q2, q3, _⟩ := q; exact ⟨q2.up P270.sz all0, CHr.keep (W.Ext.toKeep q3 []) sf0 P270.chv⟩) at_42 rfl ?_
    intro v271 T271 h271 L271 q271 P271
    obtain ⟨t271, k271, rfl, f271, E271, g271, V271⟩ := q271
    show W.Go p.tables e below _ (T271.setTop (mkF m 45 #[.val (.int pr), .val (.int vl), .val (.int fc), .val (.int dn), .val (.int (0 : Int32)), .val (.int (0 : Int32)), .val (.ref t270), .unset, .unset, .unset, .unset, .unset, .unset] [(.ref t271)]))
    have hdf : t270 ≠ t271 := Nat.ne_of_lt (Nat.lt_of_lt_of_le V270.lt g271)
    have Vd0 := V270.ext E271
    refine W.g_astore (pc1 := 47) (ls2 := #[.val (.int pr), .val (.int vl), .val (.int fc), .val (.int dn), .val (.int (0 : Int32)), .val (.int (0 : Int32)), .val (.ref t270), .val (.ref t271), .unset, .unset, .unset, .unset, .unset]) P271.q at_45 rfl rfl rfl ?_
    refine W.g_iconst (pc1 := 48) (v := (0 : Int32)) P271.q at_47 (by decide) rfl ?_
    refine W.g_istore (pc1 := 50) (ls2 := #[.val (.int pr), .val (.int vl), .val (.int fc), .val (.int dn), .val (.int (0 : Int32)), .val (.int (0 : Int32)), .val (.ref t270), .val (.ref t271), .val (.int (0 : Int32)), .unset, .unset, .unset, .unset]) P271.q at_48 rfl rfl ?_
    refine W.g_iload (pc1 := 52) P271.q at_50 rfl rfl ?_
    refine W.g_iconst (pc1 := 53) (v := (1 : Int32)) P271.q at_52 (by decide) rfl ?_
    refine W.g_iand (pc1 := 54) P271.q at_53 rfl ?_
    refine W.g_ifY (pc1 := 76) P271.q at_54 (by decide) rfl (by decide) ?_
    refine W.g_iload (pc1 := 78) P271.q at_76 rfl rfl ?_
    refine W.g_iconst (pc1 := 79) (v := (2 : Int32)) P271.q at_78 (by decide) rfl ?_
    refine W.g_iand (pc1 := 80) P271.q at_79 rfl ?_
    refine W.g_ifY (pc1 := 102) P271.q at_80 (by decide) rfl (by decide) ?_
    refine W.g_iload (pc1 := 104) P271.q at_102 rfl rfl ?_
    refine W.g_iconst (pc1 := 105) (v := (4 : Int32)) P271.q at_104 (by decide) rfl ?_
    refine W.g_iand (pc1 := 106) P271.q at_105 rfl ?_
    refine W.g_ifY (pc1 := 128) P271.q at_106 (by decide) rfl (by decide) ?_
    refine W.g_iload (pc1 := 130) P271.q at_128 rfl rfl ?_
    refine W.g_bipush (pc1 := 132) (v := (8 : Int32)) P271.q at_130 (by decide) rfl ?_
    refine W.g_iand (pc1 := 133) P271.q at_132 rfl ?_
    refine W.g_ifY (pc1 := 155) P271.q at_133 (by decide) rfl (by decide) ?_
    refine W.g_iconst (pc1 := 156) (v := (4 : Int32)) P271.q at_155 (by decide) rfl ?_
    refine P271.newP (pc1 := 158) (cap := 4) (wd hw (k := 9) rfl) (by decide) (by decide) (by decide) (by decide) (by decide) at_156 rfl ?_
    intro T272 h272 x272 k272 g272 P272 E272 V272
    have Vd272 := Vd0.ext E272
    have Vf272 := V271.ext E272
    have hdz : t270 ≠ x272 := Nat.ne_of_lt (by rw [g272]; exact Vd0.lt)
    have hfz : t271 ≠ x272 := Nat.ne_of_lt (by rw [g272]; exact V271.lt)
    refine W.g_astore (pc1 := 160) (ls2 := #[.val (.int pr), .val (.int vl), .val (.int fc), .val (.int dn), .val (.int (0 : Int32)), .val (.int (0 : Int32)), .val (.ref t270), .val (.ref t271), .val (.int (0 : Int32)), .val (.ref x272), .unset, .unset, .unset]) P272.q at_158 rfl rfl rfl ?_
    refine W.g_aload (pc1 := 162) P272.q at_160 rfl rfl rfl ?_
    refine W.g_iconst (pc1 := 163) (v := (0 : Int32)) P272.q at_162 (by decide) rfl ?_
    refine W.g_iloadN (pc1 := 164) P272.q at_163 rfl rfl ?_
    refine W.g_iconst (pc1 := 165) (v := (0 : Int32)) P272.q at_164 (by decide) rfl ?_
    refine P272.callS (pc1 := 168) (wd hw (k := 10) rfl) (wd hw (k := 11) rfl) (wd hw (k := 2) rfl) (wd hw (k := 12) rfl) (by decide) (W.MetN.pay (W := 2) (c_dv l Z a0 hw dn 0 h272) P272 (wd hw (k := 12) rfl) (wd hw (k := 2) rfl) (by decide) (by decide)) (argsL := [(.int dn), (.int (0 : Int32))]) (st0 := [(.int (0 : Int32)), (.ref x272)]) (lenOf pd_II_R_D rfl) rfl rfl (Nat.le_of_eq rfl) (by rw [hml]; rfl) (by decide) (by decide) (W.Pure.ok P272.chv) at_165 rfl ?_
    intro v273 T273 h273 L273 q273 P273
    obtain ⟨rfl, rfl, rfl⟩ := q273
    show W.Go p.tables e below _ (T273.setTop (mkF m 168 #[.val (.int pr), .val (.int vl), .val (.int fc), .val (.int dn), .val (.int (0 : Int32)), .val (.int (0 : Int32)), .val (.ref t270), .val (.ref t271), .val (.int (0 : Int32)), .val (.ref x272), .unset, .unset, .unset] [(.double (FP.i2d (own_db dn 0))), (.int (0 : Int32)), (.ref x272)]))
    refine P273.stD (pc1 := 169) (i := 0) V272 (by decide) (by decide) (Nat.le_of_ble_eq_true rfl) rfl (Or.inr (by rw [g272]; exact P271.sz)) (Safe.arv P273.al V272 (by decide)) at_168 rfl ?_
    intro T274 h274 P274 W274 V274
    have Vd274 := Vd272.other W274 hdz
    have Vf274 := Vf272.other W274 hfz
    refine W.g_aload (pc1 := 171) P274.q at_169 rfl rfl rfl ?_
    refine W.g_iconst (pc1 := 172) (v := (1 : Int32)) P274.q at_171 (by decide) rfl ?_
    refine W.g_iloadN (pc1 := 173) P274.q at_172 rfl rfl ?_
    refine W.g_iconst (pc1 := 174) (v := (1 : Int32)) P274.q at_173 (by decide) rfl ?_
    refine P274.callS (pc1 := 177) (wd hw (k := 10) rfl) (wd hw (k := 11) rfl) (wd hw (k := 2) rfl) (wd hw (k := 12) rfl) (by decide) (W.MetN.pay (W := 2) (c_dv l Z a0 hw dn 1 h274) P274 (wd hw (k := 12) rfl) (wd hw (k := 2) rfl) (by decide) (by decide)) (argsL := [(.int dn), (.int (1 : Int32))]) (st0 := [(.int (1 : Int32)), (.ref x272)]) (lenOf pd_II_R_D rfl) rfl rfl (Nat.le_of_eq rfl) (by rw [hml]; rfl) (by decide) (by decide) (W.Pure.ok P274.chv) at_174 rfl ?_
    intro v275 T275 h275 L275 q275 P275
    obtain ⟨rfl, rfl, rfl⟩ := q275
    show W.Go p.tables e below _ (T275.setTop (mkF m 177 #[.val (.int pr), .val (.int vl), .val (.int fc), .val (.int dn), .val (.int (0 : Int32)), .val (.int (0 : Int32)), .val (.ref t270), .val (.ref t271), .val (.int (0 : Int32)), .val (.ref x272), .unset, .unset, .unset] [(.double (FP.i2d (own_db dn 1))), (.int (1 : Int32)), (.ref x272)]))
    refine P275.stD (pc1 := 178) (i := 1) V274 (by decide) (by decide) (Nat.le_of_ble_eq_true rfl) rfl (Or.inr (by rw [g272]; exact P271.sz)) (Safe.arv P275.al V274 (by decide)) at_177 rfl ?_
    intro T276 h276 P276 W276 V276
    have Vd276 := Vd274.other W276 hdz
    have Vf276 := Vf274.other W276 hfz
    refine W.g_aload (pc1 := 180) P276.q at_178 rfl rfl rfl ?_
    refine W.g_iconst (pc1 := 181) (v := (2 : Int32)) P276.q at_180 (by decide) rfl ?_
    refine W.g_iloadN (pc1 := 182) P276.q at_181 rfl rfl ?_
    refine W.g_iconst (pc1 := 183) (v := (2 : Int32)) P276.q at_182 (by decide) rfl ?_
    refine P276.callS (pc1 := 186) (wd hw (k := 10) rfl) (wd hw (k := 11) rfl) (wd hw (k := 2) rfl) (wd hw (k := 12) rfl) (by decide) (W.MetN.pay (W := 2) (c_dv l Z a0 hw dn 2 h276) P276 (wd hw (k := 12) rfl) (wd hw (k := 2) rfl) (by decide) (by decide)) (argsL := [(.int dn), (.int (2 : Int32))]) (st0 := [(.int (2 : Int32)), (.ref x272)]) (lenOf pd_II_R_D rfl) rfl rfl (Nat.le_of_eq rfl) (by rw [hml]; rfl) (by decide) (by decide) (W.Pure.ok P276.chv) at_183 rfl ?_
    intro v277 T277 h277 L277 q277 P277
    obtain ⟨rfl, rfl, rfl⟩ := q277
    show W.Go p.tables e below _ (T277.setTop (mkF m 186 #[.val (.int pr), .val (.int vl), .val (.int fc), .val (.int dn), .val (.int (0 : Int32)), .val (.int (0 : Int32)), .val (.ref t270), .val (.ref t271), .val (.int (0 : Int32)), .val (.ref x272), .unset, .unset, .unset] [(.double (FP.i2d (own_db dn 2))), (.int (2 : Int32)), (.ref x272)]))
    refine P277.stD (pc1 := 187) (i := 2) V276 (by decide) (by decide) (Nat.le_of_ble_eq_true rfl) rfl (Or.inr (by rw [g272]; exact P271.sz)) (Safe.arv P277.al V276 (by decide)) at_186 rfl ?_
    intro T278 h278 P278 W278 V278
    have Vd278 := Vd276.other W278 hdz
    have Vf278 := Vf276.other W278 hfz
    refine W.g_aload (pc1 := 189) P278.q at_187 rfl rfl rfl ?_
    refine W.g_iconst (pc1 := 190) (v := (3 : Int32)) P278.q at_189 (by decide) rfl ?_
    refine W.g_iloadN (pc1 := 191) P278.q at_190 rfl rfl ?_
    refine W.g_iconst (pc1 := 192) (v := (3 : Int32)) P278.q at_191 (by decide) rfl ?_
    refine P278.callS (pc1 := 195) (wd hw (k := 10) rfl) (wd hw (k := 11) rfl) (wd hw (k := 2) rfl) (wd hw (k := 12) rfl) (by decide) (W.MetN.pay (W := 2) (c_dv l Z a0 hw dn 3 h278) P278 (wd hw (k := 12) rfl) (wd hw (k := 2) rfl) (by decide) (by decide)) (argsL := [(.int dn), (.int (3 : Int32))]) (st0 := [(.int (3 : Int32)), (.ref x272)]) (lenOf pd_II_R_D rfl) rfl rfl (Nat.le_of_eq rfl) (by rw [hml]; rfl) (by decide) (by decide) (W.Pure.ok P278.chv) at_192 rfl ?_
    intro v279 T279 h279 L279 q279 P279
    obtain ⟨rfl, rfl, rfl⟩ := q279
    show W.Go p.tables e below _ (T279.setTop (mkF m 195 #[.val (.int pr), .val (.int vl), .val (.int fc), .val (.int dn), .val (.int (0 : Int32)), .val (.int (0 : Int32)), .val (.ref t270), .val (.ref t271), .val (.int (0 : Int32)), .val (.ref x272), .unset, .unset, .unset] [(.double (FP.i2d (own_db dn 3))), (.int (3 : Int32)), (.ref x272)]))
    refine P279.stD (pc1 := 196) (i := 3) V278 (by decide) (by decide) (Nat.le_of_ble_eq_true rfl) rfl (Or.inr (by rw [g272]; exact P271.sz)) (Safe.arv P279.al V278 (by decide)) at_195 rfl ?_
    intro T280 h280 P280 W280 V280
    have Vd280 := Vd278.other W280 hdz
    have Vf280 := Vf278.other W280 hfz
    refine W.g_iloadN (pc1 := 197) P280.q at_196 rfl rfl ?_
    refine W.g_i2d (pc1 := 198) P280.q at_197 rfl ?_
    refine W.g_dstore (pc1 := 200) (ls2 := #[.val (.int pr), .val (.int vl), .val (.int fc), .val (.int dn), .val (.int (0 : Int32)), .val (.int (0 : Int32)), .val (.ref t270), .val (.ref t271), .val (.int (0 : Int32)), .val (.ref x272), .val (.double (FP.i2d fc)), .second, .unset]) P280.q at_198 rfl rfl ?_
    refine P280.newO (pc1 := 203) (wd hw (k := 13) rfl) (wd hw (k := 14) rfl) (wd hw (k := 15) rfl) (by decide) (by decide) at_200 rfl ?_
    intro T281 h281 x281 g281 P281 E281 A281 D281 U281
    refine W.g_dup (pc1 := 204) P281.q at_203 rfl rfl ?_
    refine W.g_aload (pc1 := 206) P281.q at_204 rfl rfl rfl ?_
    refine W.g_aload (pc1 := 208) P281.q at_206 rfl rfl rfl ?_
    have Ndimensions : Fld Z h281 x281 "com/example/intent_search/intentsearch/rank/CategoryVector" "dimensions" "[I" .null := D281 (Or.inr (wd hw (k := 23) rfl)) (ty := (.array .int)) (by decide)
    have Nvalues : Fld Z h281 x281 "com/example/intent_search/intentsearch/rank/CategoryVector" "values" "[F" .null := D281 (Or.inr (wd hw (k := 25) rfl)) (ty := (.array .float)) (by decide)
    refine P281.callN (pc1 := 211) rfl (wd hw (k := 16) rfl) (wd hw (k := 17) rfl) (wd hw (k := 18) rfl) (by decide) (W.MetN.pay (W := 1) (c_cv l Z a0 hw x281 t270 t271 h281 A281 _ Ndimensions _ Nvalues) P281 (wd hw (k := 18) rfl) (wd hw (k := 15) rfl) (by decide) (by decide)) (argsL := [(.ref t270), (.ref t271)]) (st0 := [(.ref x281)]) (lenOf pd_AIAF_R_V rfl) rfl rfl (Nat.le_of_eq rfl) (by rw [hml]; rfl) (by decide) (by decide) (fun _ _ _ q => ⟨q.2.1.up P281.sz (allS (Or.inr (by rw [g281]; exact P280.sz)) all0), CHr.keep q.2.2.1 (sfS (Safe.exa P281.al A281 (by decide) (by decide)) sf0) P281.chv⟩) at_208 rfl ?_
    intro v282 T282 h282 L282 q282 P282
    obtain ⟨rfl, f282, K282, A282, Fd282, Fv282⟩ := q282
    show W.Go p.tables e below _ (T282.setTop (mkF m 211 #[.val (.int pr), .val (.int vl), .val (.int fc), .val (.int dn), .val (.int (0 : Int32)), .val (.int (0 : Int32)), .val (.ref t270), .val (.ref t271), .val (.int (0 : Int32)), .val (.ref x272), .val (.double (FP.i2d fc)), .second, .unset] [(.ref x281)]))
    have Vdq := (Vd280.ext E281).keep K282 (ninS (Ne.symm (Exa.neArv A281 (Vd280.ext E281) (wd hw (k := 14) rfl))) nin0)
    have Vfq := (Vf280.ext E281).keep K282 (ninS (Ne.symm (Exa.neArv A281 (Vf280.ext E281) (wd hw (k := 14) rfl))) nin0)
    have Vzq := (V280.ext E281).keep K282 (ninS (Ne.symm (Exa.neArv A281 (V280.ext E281) (wd hw (k := 14) rfl))) nin0)
    have hxz : x281 ≠ x272 := Exa.neArv A282 Vzq (wd hw (k := 14) rfl)
    refine W.g_astore (pc1 := 213) (ls2 := #[.val (.int pr), .val (.int vl), .val (.int fc), .val (.int dn), .val (.int (0 : Int32)), .val (.int (0 : Int32)), .val (.ref t270), .val (.ref t271), .val (.int (0 : Int32)), .val (.ref x272), .val (.double (FP.i2d fc)), .second, .val (.ref x281)]) P282.q at_211 rfl rfl rfl ?_
    refine W.g_aload (pc1 := 215) P282.q at_213 rfl rfl rfl ?_
    refine W.g_aload (pc1 := 217) P282.q at_215 rfl rfl rfl ?_
    refine W.g_dload (pc1 := 219) P282.q at_217 rfl rfl ?_
    have ok0 := own_one (f := fc) (own_dbb dn 0) (own_vbb vl 0)
    have ok1 := own_one (f := fc) (own_dbb dn 1) (own_vbb vl 1)
    have ok2 := own_one (f := fc) (own_dbb dn 2) (own_vbb vl 2)
    have ok3 := own_one (f := fc) (own_dbb dn 3) (own_vbb vl 3)
    refine P282.callV (pc1 := 222) A282 (wd hw (k := 26) rfl) (wd hw (k := 27) rfl) (wd hw (k := 29) rfl) (wd hw (k := 28) rfl) (notFace_of_selects (args := #[]) (mvT P282.hz (wd hw (k := 29) rfl))) (by decide) (W.MetN.pay (W := 0) (c_add0 l Z a0 hw x281 t270 t271 x272 _ _ _ (FP.i2d (own_db dn 0)) (FP.i2d (own_db dn 1)) (FP.i2d (own_db dn 2)) (FP.i2d (own_db dn 3)) (FP.i2d fc)  h282 A282 Fd282 Fv282 Vdq Vfq Vzq hdz hfz hxz) P282 (wd hw (k := 30) rfl) (wd hw (k := 15) rfl) (by decide) (by decide)) (argsL := [(.ref x272), (.double (FP.i2d fc))]) (st0 := []) (lenOf pd_ADD_R_V rfl) rfl rfl (Nat.le_of_eq rfl) (by rw [hml]; rfl) (by decide) (by decide) (fun _ _ _ q => ⟨q.2.1.up P282.sz (allS (Or.inr (by rw [g272]; exact P271.sz)) all0), CHr.keep q.2.2.1 (sfS (Safe.arv P282.al Vzq (by decide)) sf0) P282.chv⟩) at_219 rfl ?_
    intro v283 T283 h283 L283 q283 P283
    obtain ⟨rfl, f283, K283, V283⟩ := q283
    show W.Go p.tables e below _ (T283.setTop (mkF m 222 #[.val (.int pr), .val (.int vl), .val (.int fc), .val (.int dn), .val (.int (0 : Int32)), .val (.int (0 : Int32)), .val (.ref t270), .val (.ref t271), .val (.int (0 : Int32)), .val (.ref x272), .val (.double (FP.i2d fc)), .second, .val (.ref x281)] []))
    refine W.g_aload (pc1 := 224) P283.q at_222 rfl rfl rfl ?_
    refine W.g_iconst (pc1 := 225) (v := (0 : Int32)) P283.q at_224 (by decide) rfl ?_
    refine W.g_iload (pc1 := 227) P283.q at_225 rfl rfl ?_
    refine W.g_iloadN (pc1 := 228) P283.q at_227 rfl rfl ?_
    refine W.g_iloadN (pc1 := 229) P283.q at_228 rfl rfl ?_
    refine W.g_dload (pc1 := 231) P283.q at_229 rfl rfl ?_
    refine P283.callS (pc1 := 234) (wd hw (k := 31) rfl) (wd hw (k := 32) rfl) (wd hw (k := 2) rfl) (wd hw (k := 33) rfl) (by decide) (W.MetN.pay (W := 0) (c_chk00 l Z a0 hw x272 _ _ _ _ _ (FP.i2d fc) 0 vl dn (by decide) own_self h283 V283) P283 (wd hw (k := 33) rfl) (wd hw (k := 2) rfl) (by decide) (by decide)) (argsL := [(.ref x272), (.int (0 : Int32)), (.int (0 : Int32)), (.int vl), (.int dn), (.double (FP.i2d fc))]) (st0 := []) (lenOf pd_ADIIIID_R_Z rfl) rfl rfl (Nat.le_of_eq rfl) (by rw [hml]; rfl) (by decide) (by decide) (W.Pure.ok P283.chv) at_231 rfl ?_
    intro v284 T284 h284 L284 q284 P284
    obtain ⟨rfl, rfl, rfl⟩ := q284
    show W.Go p.tables e below _ (T284.setTop (mkF m 234 #[.val (.int pr), .val (.int vl), .val (.int fc), .val (.int dn), .val (.int (0 : Int32)), .val (.int (0 : Int32)), .val (.ref t270), .val (.ref t271), .val (.int (0 : Int32)), .val (.ref x272), .val (.double (FP.i2d fc)), .second, .val (.ref x281)] [(.int (1 : Int32))]))
    refine W.g_ifN (pc2 := 237) P284.q at_234 rfl (by decide) ?_
    refine W.g_aload (pc1 := 239) P284.q at_237 rfl rfl rfl ?_
    refine W.g_iconst (pc1 := 240) (v := (1 : Int32)) P284.q at_239 (by decide) rfl ?_
    refine W.g_iload (pc1 := 242) P284.q at_240 rfl rfl ?_
    refine W.g_iloadN (pc1 := 243) P284.q at_242 rfl rfl ?_
    refine W.g_iloadN (pc1 := 244) P284.q at_243 rfl rfl ?_
    refine W.g_dload (pc1 := 246) P284.q at_244 rfl rfl ?_
    refine P284.callS (pc1 := 249) (wd hw (k := 31) rfl) (wd hw (k := 32) rfl) (wd hw (k := 2) rfl) (wd hw (k := 33) rfl) (by decide) (W.MetN.pay (W := 0) (c_chk10 l Z a0 hw x272 _ _ _ _ _ (FP.i2d fc) 0 vl dn (by decide) own_self h283 V283) P284 (wd hw (k := 33) rfl) (wd hw (k := 2) rfl) (by decide) (by decide)) (argsL := [(.ref x272), (.int (1 : Int32)), (.int (0 : Int32)), (.int vl), (.int dn), (.double (FP.i2d fc))]) (st0 := []) (lenOf pd_ADIIIID_R_Z rfl) rfl rfl (Nat.le_of_eq rfl) (by rw [hml]; rfl) (by decide) (by decide) (W.Pure.ok P284.chv) at_246 rfl ?_
    intro v285 T285 h285 L285 q285 P285
    obtain ⟨rfl, rfl, rfl⟩ := q285
    show W.Go p.tables e below _ (T285.setTop (mkF m 249 #[.val (.int pr), .val (.int vl), .val (.int fc), .val (.int dn), .val (.int (0 : Int32)), .val (.int (0 : Int32)), .val (.ref t270), .val (.ref t271), .val (.int (0 : Int32)), .val (.ref x272), .val (.double (FP.i2d fc)), .second, .val (.ref x281)] [(.int (1 : Int32))]))
    refine W.g_ifN (pc2 := 252) P285.q at_249 rfl (by decide) ?_
    refine W.g_aload (pc1 := 254) P285.q at_252 rfl rfl rfl ?_
    refine W.g_iconst (pc1 := 255) (v := (2 : Int32)) P285.q at_254 (by decide) rfl ?_
    refine W.g_iload (pc1 := 257) P285.q at_255 rfl rfl ?_
    refine W.g_iloadN (pc1 := 258) P285.q at_257 rfl rfl ?_
    refine W.g_iloadN (pc1 := 259) P285.q at_258 rfl rfl ?_
    refine W.g_dload (pc1 := 261) P285.q at_259 rfl rfl ?_
    refine P285.callS (pc1 := 264) (wd hw (k := 31) rfl) (wd hw (k := 32) rfl) (wd hw (k := 2) rfl) (wd hw (k := 33) rfl) (by decide) (W.MetN.pay (W := 0) (c_chk20 l Z a0 hw x272 _ _ _ _ _ (FP.i2d fc) 0 vl dn (by decide) own_self h283 V283) P285 (wd hw (k := 33) rfl) (wd hw (k := 2) rfl) (by decide) (by decide)) (argsL := [(.ref x272), (.int (2 : Int32)), (.int (0 : Int32)), (.int vl), (.int dn), (.double (FP.i2d fc))]) (st0 := []) (lenOf pd_ADIIIID_R_Z rfl) rfl rfl (Nat.le_of_eq rfl) (by rw [hml]; rfl) (by decide) (by decide) (W.Pure.ok P285.chv) at_261 rfl ?_
    intro v286 T286 h286 L286 q286 P286
    obtain ⟨rfl, rfl, rfl⟩ := q286
    show W.Go p.tables e below _ (T286.setTop (mkF m 264 #[.val (.int pr), .val (.int vl), .val (.int fc), .val (.int dn), .val (.int (0 : Int32)), .val (.int (0 : Int32)), .val (.ref t270), .val (.ref t271), .val (.int (0 : Int32)), .val (.ref x272), .val (.double (FP.i2d fc)), .second, .val (.ref x281)] [(.int (1 : Int32))]))
    refine W.g_ifN (pc2 := 267) P286.q at_264 rfl (by decide) ?_
    refine W.g_aload (pc1 := 269) P286.q at_267 rfl rfl rfl ?_
    refine W.g_iconst (pc1 := 270) (v := (3 : Int32)) P286.q at_269 (by decide) rfl ?_
    refine W.g_iload (pc1 := 272) P286.q at_270 rfl rfl ?_
    refine W.g_iloadN (pc1 := 273) P286.q at_272 rfl rfl ?_
    refine W.g_iloadN (pc1 := 274) P286.q at_273 rfl rfl ?_
    refine W.g_dload (pc1 := 276) P286.q at_274 rfl rfl ?_
    refine P286.callS (pc1 := 279) (wd hw (k := 31) rfl) (wd hw (k := 32) rfl) (wd hw (k := 2) rfl) (wd hw (k := 33) rfl) (by decide) (W.MetN.pay (W := 0) (c_chk30 l Z a0 hw x272 _ _ _ _ _ (FP.i2d fc) 0 vl dn (by decide) own_self h283 V283) P286 (wd hw (k := 33) rfl) (wd hw (k := 2) rfl) (by decide) (by decide)) (argsL := [(.ref x272), (.int (3 : Int32)), (.int (0 : Int32)), (.int vl), (.int dn), (.double (FP.i2d fc))]) (st0 := []) (lenOf pd_ADIIIID_R_Z rfl) rfl rfl (Nat.le_of_eq rfl) (by rw [hml]; rfl) (by decide) (by decide) (W.Pure.ok P286.chv) at_276 rfl ?_
    intro v287 T287 h287 L287 q287 P287
    obtain ⟨rfl, rfl, rfl⟩ := q287
    show W.Go p.tables e below _ (T287.setTop (mkF m 279 #[.val (.int pr), .val (.int vl), .val (.int fc), .val (.int dn), .val (.int (0 : Int32)), .val (.int (0 : Int32)), .val (.ref t270), .val (.ref t271), .val (.int (0 : Int32)), .val (.ref x272), .val (.double (FP.i2d fc)), .second, .val (.ref x281)] [(.int (1 : Int32))]))
    refine W.g_ifN (pc2 := 282) P287.q at_279 rfl (by decide) ?_
    refine W.g_iconst (pc1 := 283) (v := (1 : Int32)) P287.q at_282 (by decide) rfl ?_
    refine W.g_goto (pc1 := 287) P287.q at_283 (by decide) rfl ?_
    exact P287.retVN hlk hret (Or.inl rfl) at_287 (by decide) (by decide) ⟨rfl, P287.fr⟩
  · show W.Go p.tables e below _ (s₁.setTop (mkF m 4 #[.val (.int pr), .val (.int vl), .val (.int fc), .val (.int dn), .unset, .unset, .unset, .unset, .unset, .unset, .unset, .unset, .unset] [(.int (1 : Int32))]))
    refine W.g_istore (pc1 := 6) (ls2 := #[.val (.int pr), .val (.int vl), .val (.int fc), .val (.int dn), .val (.int (1 : Int32)), .unset, .unset, .unset, .unset, .unset, .unset, .unset, .unset]) P0.q at_4 rfl rfl ?_
    refine W.g_iload (pc1 := 8) P0.q at_6 rfl rfl ?_
    refine W.g_iconst (pc1 := 9) (v := (1 : Int32)) P0.q at_8 (by decide) rfl ?_
    refine W.g_iand (pc1 := 10) P0.q at_9 rfl ?_
    refine W.g_iload (pc1 := 12) P0.q at_10 rfl rfl ?_
    refine W.g_iconst (pc1 := 13) (v := (1 : Int32)) P0.q at_12 (by decide) rfl ?_
    refine W.g_ishr (pc1 := 14) P0.q at_13 rfl ?_
    refine W.g_iconst (pc1 := 15) (v := (1 : Int32)) P0.q at_14 (by decide) rfl ?_
    refine W.g_iand (pc1 := 16) P0.q at_15 rfl ?_
    refine W.g_iadd (pc1 := 17) P0.q at_16 rfl ?_
    refine W.g_iload (pc1 := 19) P0.q at_17 rfl rfl ?_
    refine W.g_iconst (pc1 := 20) (v := (2 : Int32)) P0.q at_19 (by decide) rfl ?_
    refine W.g_ishr (pc1 := 21) P0.q at_20 rfl ?_
    refine W.g_iconst (pc1 := 22) (v := (1 : Int32)) P0.q at_21 (by decide) rfl ?_
    refine W.g_iand (pc1 := 23) P0.q at_22 rfl ?_
    refine W.g_iadd (pc1 := 24) P0.q at_23 rfl ?_
    refine W.g_iload (pc1 := 26) P0.q at_24 rfl rfl ?_
    refine W.g_iconst (pc1 := 27) (v := (3 : Int32)) P0.q at_26 (by decide) rfl ?_
    refine W.g_ishr (pc1 := 28) P0.q at_27 rfl ?_
    refine W.g_iconst (pc1 := 29) (v := (1 : Int32)) P0.q at_28 (by decide) rfl ?_
    refine W.g_iand (pc1 := 30) P0.q at_29 rfl ?_
    refine W.g_iadd (pc1 := 31) P0.q at_30 rfl ?_
    rw [show (((((1 : Int32) &&& (1 : Int32)) + (((1 : Int32) >>> ((1 : Int32) &&& 31)) &&& (1 : Int32))) + (((1 : Int32) >>> ((2 : Int32) &&& 31)) &&& (1 : Int32))) + (((1 : Int32) >>> ((3 : Int32) &&& 31)) &&& (1 : Int32))) = (1 : Int32) from by decide]
    refine W.g_istore (pc1 := 33) (ls2 := #[.val (.int pr), .val (.int vl), .val (.int fc), .val (.int dn), .val (.int (1 : Int32)), .val (.int (1 : Int32)), .unset, .unset, .unset, .unset, .unset, .unset, .unset]) P0.q at_31 rfl rfl ?_
    refine W.g_iload (pc1 := 35) P0.q at_33 rfl rfl ?_
    refine P0.callS (pc1 := 38) (wd hw (k := 0) rfl) (wd hw (k := 1) rfl) (wd hw (k := 2) rfl) (wd hw (k := 3) rfl) (by decide) (W.MetN.pay (W := 0) (c_ni1 l Z a0 hw h0) P0 (wd hw (k := 3) rfl) (wd hw (k := 2) rfl) (by decide) (by decide)) (argsL := [(.int (1 : Int32))]) (st0 := []) (lenOf pd_I_R_AI rfl) rfl rfl (Nat.le_of_eq rfl) (by rw [hml]; rfl) (by decide) (by decide) (fun _ _ _ q => by obtain ⟨_, _, _, q2, q3, _⟩ := q; exact ⟨q2.up P0.sz all0, CHr.keep (W.Ext.toKeep q3 []) sf0 P0.chv⟩) at_35 rfl ?_
    intro v288 T288 h288 L288 q288 P288
    obtain ⟨t288, k288, rfl, f288, E288, g288, V288⟩ := q288
    show W.Go p.tables e below _ (T288.setTop (mkF m 38 #[.val (.int pr), .val (.int vl), .val (.int fc), .val (.int dn), .val (.int (1 : Int32)), .val (.int (1 : Int32)), .unset, .unset, .unset, .unset, .unset, .unset, .unset] [(.ref t288)]))
    refine W.g_astore (pc1 := 40) (ls2 := #[.val (.int pr), .val (.int vl), .val (.int fc), .val (.int dn), .val (.int (1 : Int32)), .val (.int (1 : Int32)), .val (.ref t288), .unset, .unset, .unset, .unset, .unset, .unset]) P288.q at_38 rfl rfl rfl ?_
    refine W.g_iload (pc1 := 42) P288.q at_40 rfl rfl ?_
    refine P288.callS (pc1 := 45) (wd hw (k := 5) rfl) (wd hw (k := 6) rfl) (wd hw (k := 2) rfl) (wd hw (k := 7) rfl) (by decide) (W.MetN.pay (W := 0) (c_nf1 l Z a0 hw h288) P288 (wd hw (k := 7) rfl) (wd hw (k := 2) rfl) (by decide) (by decide)) (argsL := [(.int (1 : Int32))]) (st0 := []) (lenOf pd_I_R_AF rfl) rfl rfl (Nat.le_of_eq rfl) (by rw [hml]; rfl) (by decide) (by decide) (fun _ _ _ q => by obtain ⟨_, _, _, q2, q3, _⟩ := q; exact ⟨q2.up P288.sz all0, CHr.keep (W.Ext.toKeep q3 []) sf0 P288.chv⟩) at_42 rfl ?_
    intro v289 T289 h289 L289 q289 P289
    obtain ⟨t289, k289, rfl, f289, E289, g289, V289⟩ := q289
    show W.Go p.tables e below _ (T289.setTop (mkF m 45 #[.val (.int pr), .val (.int vl), .val (.int fc), .val (.int dn), .val (.int (1 : Int32)), .val (.int (1 : Int32)), .val (.ref t288), .unset, .unset, .unset, .unset, .unset, .unset] [(.ref t289)]))
    have hdf : t288 ≠ t289 := Nat.ne_of_lt (Nat.lt_of_lt_of_le V288.lt g289)
    have Vd0 := V288.ext E289
    refine W.g_astore (pc1 := 47) (ls2 := #[.val (.int pr), .val (.int vl), .val (.int fc), .val (.int dn), .val (.int (1 : Int32)), .val (.int (1 : Int32)), .val (.ref t288), .val (.ref t289), .unset, .unset, .unset, .unset, .unset]) P289.q at_45 rfl rfl rfl ?_
    refine W.g_iconst (pc1 := 48) (v := (0 : Int32)) P289.q at_47 (by decide) rfl ?_
    refine W.g_istore (pc1 := 50) (ls2 := #[.val (.int pr), .val (.int vl), .val (.int fc), .val (.int dn), .val (.int (1 : Int32)), .val (.int (1 : Int32)), .val (.ref t288), .val (.ref t289), .val (.int (0 : Int32)), .unset, .unset, .unset, .unset]) P289.q at_48 rfl rfl ?_
    refine W.g_iload (pc1 := 52) P289.q at_50 rfl rfl ?_
    refine W.g_iconst (pc1 := 53) (v := (1 : Int32)) P289.q at_52 (by decide) rfl ?_
    refine W.g_iand (pc1 := 54) P289.q at_53 rfl ?_
    refine W.g_ifN (pc2 := 57) P289.q at_54 rfl (by decide) ?_
    refine W.g_aload (pc1 := 59) P289.q at_57 rfl rfl rfl ?_
    refine W.g_iload (pc1 := 61) P289.q at_59 rfl rfl ?_
    refine W.g_iconst (pc1 := 62) (v := (0 : Int32)) P289.q at_61 (by decide) rfl ?_
    refine P289.stI (pc1 := 63) (i := 0) Vd0 (by decide) (by decide) (Nat.le_of_ble_eq_true rfl) rfl (Or.inr (Nat.le_trans P0.sz g288)) (Safe.arv P289.al Vd0 (by decide)) at_62 rfl ?_
    intro T290 h290 P290 W290 V290
    have Vf290 := V289.other W290 (Ne.symm hdf)
    refine W.g_aload (pc1 := 65) P290.q at_63 rfl rfl rfl ?_
    refine W.g_iload (pc1 := 67) P290.q at_65 rfl rfl ?_
    refine W.g_iloadN (pc1 := 68) P290.q at_67 rfl rfl ?_
    refine W.g_iconst (pc1 := 69) (v := (0 : Int32)) P290.q at_68 (by decide) rfl ?_
    refine P290.callS (pc1 := 72) (wd hw (k := 34) rfl) (wd hw (k := 35) rfl) (wd hw (k := 2) rfl) (wd hw (k := 36) rfl) (by decide) (W.MetN.pay (W := 2) (c_val l Z a0 hw vl 0 h290) P290 (wd hw (k := 36) rfl) (wd hw (k := 2) rfl) (by decide) (by decide)) (argsL := [(.int vl), (.int (0 : Int32))]) (st0 := [(.int (0 : Int32)), (.ref t289)]) (lenOf pd_II_R_F rfl) rfl rfl (Nat.le_of_eq rfl) (by rw [hml]; rfl) (by decide) (by decide) (W.Pure.ok P290.chv) at_69 rfl ?_
    intro v291 T291 h291 L291 q291 P291
    obtain ⟨rfl, rfl, rfl⟩ := q291
    show W.Go p.tables e below _ (T291.setTop (mkF m 72 #[.val (.int pr), .val (.int vl), .val (.int fc), .val (.int dn), .val (.int (1 : Int32)), .val (.int (1 : Int32)), .val (.ref t288), .val (.ref t289), .val (.int (0 : Int32)), .unset, .unset, .unset, .unset] [(.float (FP.i2f (own_vb vl 0))), (.int (0 : Int32)), (.ref t289)]))
    refine P291.stF (pc1 := 73) (i := 0) Vf290 (by decide) (by decide) (Nat.le_of_ble_eq_true rfl) rfl (Or.inr (Nat.le_trans P288.sz g289)) (Safe.arv P291.al Vf290 (by decide)) at_72 rfl ?_
    intro T292 h292 P292 W292 V292
    have Vd292 := V290.other W292 hdf
    refine W.g_iinc (pc1 := 76) (ls2 := #[.val (.int pr), .val (.int vl), .val (.int fc), .val (.int dn), .val (.int (1 : Int32)), .val (.int (1 : Int32)), .val (.ref t288), .val (.ref t289), .val (.int ((0 : Int32) + Int32.ofInt 1)), .unset, .unset, .unset, .unset]) P292.q at_73 rfl rfl rfl ?_
    show W.Go p.tables e below _ (T292.setTop (mkF m 76 #[.val (.int pr), .val (.int vl), .val (.int fc), .val (.int dn), .val (.int (1 : Int32)), .val (.int (1 : Int32)), .val (.ref t288), .val (.ref t289), .val (.int (1 : Int32)), .unset, .unset, .unset, .unset] []))
    refine W.g_iload (pc1 := 78) P292.q at_76 rfl rfl ?_
    refine W.g_iconst (pc1 := 79) (v := (2 : Int32)) P292.q at_78 (by decide) rfl ?_
    refine W.g_iand (pc1 := 80) P292.q at_79 rfl ?_
    refine W.g_ifY (pc1 := 102) P292.q at_80 (by decide) rfl (by decide) ?_
    refine W.g_iload (pc1 := 104) P292.q at_102 rfl rfl ?_
    refine W.g_iconst (pc1 := 105) (v := (4 : Int32)) P292.q at_104 (by decide) rfl ?_
    refine W.g_iand (pc1 := 106) P292.q at_105 rfl ?_
    refine W.g_ifY (pc1 := 128) P292.q at_106 (by decide) rfl (by decide) ?_
    refine W.g_iload (pc1 := 130) P292.q at_128 rfl rfl ?_
    refine W.g_bipush (pc1 := 132) (v := (8 : Int32)) P292.q at_130 (by decide) rfl ?_
    refine W.g_iand (pc1 := 133) P292.q at_132 rfl ?_
    refine W.g_ifY (pc1 := 155) P292.q at_133 (by decide) rfl (by decide) ?_
    refine W.g_iconst (pc1 := 156) (v := (4 : Int32)) P292.q at_155 (by decide) rfl ?_
    refine P292.newP (pc1 := 158) (cap := 4) (wd hw (k := 9) rfl) (by decide) (by decide) (by decide) (by decide) (by decide) at_156 rfl ?_
    intro T293 h293 x293 k293 g293 P293 E293 V293
    have Vd293 := Vd292.ext E293
    have Vf293 := V292.ext E293
    have hdz : t288 ≠ x293 := Nat.ne_of_lt (by rw [g293]; exact Vd292.lt)
    have hfz : t289 ≠ x293 := Nat.ne_of_lt (by rw [g293]; exact V292.lt)
    refine W.g_astore (pc1 := 160) (ls2 := #[.val (.int pr), .val (.int vl), .val (.int fc), .val (.int dn), .val (.int (1 : Int32)), .val (.int (1 : Int32)), .val (.ref t288), .val (.ref t289), .val (.int (1 : Int32)), .val (.ref x293), .unset, .unset, .unset]) P293.q at_158 rfl rfl rfl ?_
    refine W.g_aload (pc1 := 162) P293.q at_160 rfl rfl rfl ?_
    refine W.g_iconst (pc1 := 163) (v := (0 : Int32)) P293.q at_162 (by decide) rfl ?_
    refine W.g_iloadN (pc1 := 164) P293.q at_163 rfl rfl ?_
    refine W.g_iconst (pc1 := 165) (v := (0 : Int32)) P293.q at_164 (by decide) rfl ?_
    refine P293.callS (pc1 := 168) (wd hw (k := 10) rfl) (wd hw (k := 11) rfl) (wd hw (k := 2) rfl) (wd hw (k := 12) rfl) (by decide) (W.MetN.pay (W := 2) (c_dv l Z a0 hw dn 0 h293) P293 (wd hw (k := 12) rfl) (wd hw (k := 2) rfl) (by decide) (by decide)) (argsL := [(.int dn), (.int (0 : Int32))]) (st0 := [(.int (0 : Int32)), (.ref x293)]) (lenOf pd_II_R_D rfl) rfl rfl (Nat.le_of_eq rfl) (by rw [hml]; rfl) (by decide) (by decide) (W.Pure.ok P293.chv) at_165 rfl ?_
    intro v294 T294 h294 L294 q294 P294
    obtain ⟨rfl, rfl, rfl⟩ := q294
    show W.Go p.tables e below _ (T294.setTop (mkF m 168 #[.val (.int pr), .val (.int vl), .val (.int fc), .val (.int dn), .val (.int (1 : Int32)), .val (.int (1 : Int32)), .val (.ref t288), .val (.ref t289), .val (.int (1 : Int32)), .val (.ref x293), .unset, .unset, .unset] [(.double (FP.i2d (own_db dn 0))), (.int (0 : Int32)), (.ref x293)]))
    refine P294.stD (pc1 := 169) (i := 0) V293 (by decide) (by decide) (Nat.le_of_ble_eq_true rfl) rfl (Or.inr (by rw [g293]; exact P292.sz)) (Safe.arv P294.al V293 (by decide)) at_168 rfl ?_
    intro T295 h295 P295 W295 V295
    have Vd295 := Vd293.other W295 hdz
    have Vf295 := Vf293.other W295 hfz
    refine W.g_aload (pc1 := 171) P295.q at_169 rfl rfl rfl ?_
    refine W.g_iconst (pc1 := 172) (v := (1 : Int32)) P295.q at_171 (by decide) rfl ?_
    refine W.g_iloadN (pc1 := 173) P295.q at_172 rfl rfl ?_
    refine W.g_iconst (pc1 := 174) (v := (1 : Int32)) P295.q at_173 (by decide) rfl ?_
    refine P295.callS (pc1 := 177) (wd hw (k := 10) rfl) (wd hw (k := 11) rfl) (wd hw (k := 2) rfl) (wd hw (k := 12) rfl) (by decide) (W.MetN.pay (W := 2) (c_dv l Z a0 hw dn 1 h295) P295 (wd hw (k := 12) rfl) (wd hw (k := 2) rfl) (by decide) (by decide)) (argsL := [(.int dn), (.int (1 : Int32))]) (st0 := [(.int (1 : Int32)), (.ref x293)]) (lenOf pd_II_R_D rfl) rfl rfl (Nat.le_of_eq rfl) (by rw [hml]; rfl) (by decide) (by decide) (W.Pure.ok P295.chv) at_174 rfl ?_
    intro v296 T296 h296 L296 q296 P296
    obtain ⟨rfl, rfl, rfl⟩ := q296
    show W.Go p.tables e below _ (T296.setTop (mkF m 177 #[.val (.int pr), .val (.int vl), .val (.int fc), .val (.int dn), .val (.int (1 : Int32)), .val (.int (1 : Int32)), .val (.ref t288), .val (.ref t289), .val (.int (1 : Int32)), .val (.ref x293), .unset, .unset, .unset] [(.double (FP.i2d (own_db dn 1))), (.int (1 : Int32)), (.ref x293)]))
    refine P296.stD (pc1 := 178) (i := 1) V295 (by decide) (by decide) (Nat.le_of_ble_eq_true rfl) rfl (Or.inr (by rw [g293]; exact P292.sz)) (Safe.arv P296.al V295 (by decide)) at_177 rfl ?_
    intro T297 h297 P297 W297 V297
    have Vd297 := Vd295.other W297 hdz
    have Vf297 := Vf295.other W297 hfz
    refine W.g_aload (pc1 := 180) P297.q at_178 rfl rfl rfl ?_
    refine W.g_iconst (pc1 := 181) (v := (2 : Int32)) P297.q at_180 (by decide) rfl ?_
    refine W.g_iloadN (pc1 := 182) P297.q at_181 rfl rfl ?_
    refine W.g_iconst (pc1 := 183) (v := (2 : Int32)) P297.q at_182 (by decide) rfl ?_
    refine P297.callS (pc1 := 186) (wd hw (k := 10) rfl) (wd hw (k := 11) rfl) (wd hw (k := 2) rfl) (wd hw (k := 12) rfl) (by decide) (W.MetN.pay (W := 2) (c_dv l Z a0 hw dn 2 h297) P297 (wd hw (k := 12) rfl) (wd hw (k := 2) rfl) (by decide) (by decide)) (argsL := [(.int dn), (.int (2 : Int32))]) (st0 := [(.int (2 : Int32)), (.ref x293)]) (lenOf pd_II_R_D rfl) rfl rfl (Nat.le_of_eq rfl) (by rw [hml]; rfl) (by decide) (by decide) (W.Pure.ok P297.chv) at_183 rfl ?_
    intro v298 T298 h298 L298 q298 P298
    obtain ⟨rfl, rfl, rfl⟩ := q298
    show W.Go p.tables e below _ (T298.setTop (mkF m 186 #[.val (.int pr), .val (.int vl), .val (.int fc), .val (.int dn), .val (.int (1 : Int32)), .val (.int (1 : Int32)), .val (.ref t288), .val (.ref t289), .val (.int (1 : Int32)), .val (.ref x293), .unset, .unset, .unset] [(.double (FP.i2d (own_db dn 2))), (.int (2 : Int32)), (.ref x293)]))
    refine P298.stD (pc1 := 187) (i := 2) V297 (by decide) (by decide) (Nat.le_of_ble_eq_true rfl) rfl (Or.inr (by rw [g293]; exact P292.sz)) (Safe.arv P298.al V297 (by decide)) at_186 rfl ?_
    intro T299 h299 P299 W299 V299
    have Vd299 := Vd297.other W299 hdz
    have Vf299 := Vf297.other W299 hfz
    refine W.g_aload (pc1 := 189) P299.q at_187 rfl rfl rfl ?_
    refine W.g_iconst (pc1 := 190) (v := (3 : Int32)) P299.q at_189 (by decide) rfl ?_
    refine W.g_iloadN (pc1 := 191) P299.q at_190 rfl rfl ?_
    refine W.g_iconst (pc1 := 192) (v := (3 : Int32)) P299.q at_191 (by decide) rfl ?_
    refine P299.callS (pc1 := 195) (wd hw (k := 10) rfl) (wd hw (k := 11) rfl) (wd hw (k := 2) rfl) (wd hw (k := 12) rfl) (by decide) (W.MetN.pay (W := 2) (c_dv l Z a0 hw dn 3 h299) P299 (wd hw (k := 12) rfl) (wd hw (k := 2) rfl) (by decide) (by decide)) (argsL := [(.int dn), (.int (3 : Int32))]) (st0 := [(.int (3 : Int32)), (.ref x293)]) (lenOf pd_II_R_D rfl) rfl rfl (Nat.le_of_eq rfl) (by rw [hml]; rfl) (by decide) (by decide) (W.Pure.ok P299.chv) at_192 rfl ?_
    intro v300 T300 h300 L300 q300 P300
    obtain ⟨rfl, rfl, rfl⟩ := q300
    show W.Go p.tables e below _ (T300.setTop (mkF m 195 #[.val (.int pr), .val (.int vl), .val (.int fc), .val (.int dn), .val (.int (1 : Int32)), .val (.int (1 : Int32)), .val (.ref t288), .val (.ref t289), .val (.int (1 : Int32)), .val (.ref x293), .unset, .unset, .unset] [(.double (FP.i2d (own_db dn 3))), (.int (3 : Int32)), (.ref x293)]))
    refine P300.stD (pc1 := 196) (i := 3) V299 (by decide) (by decide) (Nat.le_of_ble_eq_true rfl) rfl (Or.inr (by rw [g293]; exact P292.sz)) (Safe.arv P300.al V299 (by decide)) at_195 rfl ?_
    intro T301 h301 P301 W301 V301
    have Vd301 := Vd299.other W301 hdz
    have Vf301 := Vf299.other W301 hfz
    refine W.g_iloadN (pc1 := 197) P301.q at_196 rfl rfl ?_
    refine W.g_i2d (pc1 := 198) P301.q at_197 rfl ?_
    refine W.g_dstore (pc1 := 200) (ls2 := #[.val (.int pr), .val (.int vl), .val (.int fc), .val (.int dn), .val (.int (1 : Int32)), .val (.int (1 : Int32)), .val (.ref t288), .val (.ref t289), .val (.int (1 : Int32)), .val (.ref x293), .val (.double (FP.i2d fc)), .second, .unset]) P301.q at_198 rfl rfl ?_
    refine P301.newO (pc1 := 203) (wd hw (k := 13) rfl) (wd hw (k := 14) rfl) (wd hw (k := 15) rfl) (by decide) (by decide) at_200 rfl ?_
    intro T302 h302 x302 g302 P302 E302 A302 D302 U302
    refine W.g_dup (pc1 := 204) P302.q at_203 rfl rfl ?_
    refine W.g_aload (pc1 := 206) P302.q at_204 rfl rfl rfl ?_
    refine W.g_aload (pc1 := 208) P302.q at_206 rfl rfl rfl ?_
    have Ndimensions : Fld Z h302 x302 "com/example/intent_search/intentsearch/rank/CategoryVector" "dimensions" "[I" .null := D302 (Or.inr (wd hw (k := 23) rfl)) (ty := (.array .int)) (by decide)
    have Nvalues : Fld Z h302 x302 "com/example/intent_search/intentsearch/rank/CategoryVector" "values" "[F" .null := D302 (Or.inr (wd hw (k := 25) rfl)) (ty := (.array .float)) (by decide)
    refine P302.callN (pc1 := 211) rfl (wd hw (k := 16) rfl) (wd hw (k := 17) rfl) (wd hw (k := 18) rfl) (by decide) (W.MetN.pay (W := 1) (c_cv l Z a0 hw x302 t288 t289 h302 A302 _ Ndimensions _ Nvalues) P302 (wd hw (k := 18) rfl) (wd hw (k := 15) rfl) (by decide) (by decide)) (argsL := [(.ref t288), (.ref t289)]) (st0 := [(.ref x302)]) (lenOf pd_AIAF_R_V rfl) rfl rfl (Nat.le_of_eq rfl) (by rw [hml]; rfl) (by decide) (by decide) (fun _ _ _ q => ⟨q.2.1.up P302.sz (allS (Or.inr (by rw [g302]; exact P301.sz)) all0), CHr.keep q.2.2.1 (sfS (Safe.exa P302.al A302 (by decide) (by decide)) sf0) P302.chv⟩) at_208 rfl ?_
    intro v303 T303 h303 L303 q303 P303
    obtain ⟨rfl, f303, K303, A303, Fd303, Fv303⟩ := q303
    show W.Go p.tables e below _ (T303.setTop (mkF m 211 #[.val (.int pr), .val (.int vl), .val (.int fc), .val (.int dn), .val (.int (1 : Int32)), .val (.int (1 : Int32)), .val (.ref t288), .val (.ref t289), .val (.int (1 : Int32)), .val (.ref x293), .val (.double (FP.i2d fc)), .second, .unset] [(.ref x302)]))
    have Vdq := (Vd301.ext E302).keep K303 (ninS (Ne.symm (Exa.neArv A302 (Vd301.ext E302) (wd hw (k := 14) rfl))) nin0)
    have Vfq := (Vf301.ext E302).keep K303 (ninS (Ne.symm (Exa.neArv A302 (Vf301.ext E302) (wd hw (k := 14) rfl))) nin0)
    have Vzq := (V301.ext E302).keep K303 (ninS (Ne.symm (Exa.neArv A302 (V301.ext E302) (wd hw (k := 14) rfl))) nin0)
    have hxz : x302 ≠ x293 := Exa.neArv A303 Vzq (wd hw (k := 14) rfl)
    refine W.g_astore (pc1 := 213) (ls2 := #[.val (.int pr), .val (.int vl), .val (.int fc), .val (.int dn), .val (.int (1 : Int32)), .val (.int (1 : Int32)), .val (.ref t288), .val (.ref t289), .val (.int (1 : Int32)), .val (.ref x293), .val (.double (FP.i2d fc)), .second, .val (.ref x302)]) P303.q at_211 rfl rfl rfl ?_
    refine W.g_aload (pc1 := 215) P303.q at_213 rfl rfl rfl ?_
    refine W.g_aload (pc1 := 217) P303.q at_215 rfl rfl rfl ?_
    refine W.g_dload (pc1 := 219) P303.q at_217 rfl rfl ?_
    have ok0 := own_one (f := fc) (own_dbb dn 0) (own_vbb vl 0)
    have ok1 := own_one (f := fc) (own_dbb dn 1) (own_vbb vl 1)
    have ok2 := own_one (f := fc) (own_dbb dn 2) (own_vbb vl 2)
    have ok3 := own_one (f := fc) (own_dbb dn 3) (own_vbb vl 3)
    refine P303.callV (pc1 := 222) A303 (wd hw (k := 26) rfl) (wd hw (k := 27) rfl) (wd hw (k := 29) rfl) (wd hw (k := 28) rfl) (notFace_of_selects (args := #[]) (mvT P303.hz (wd hw (k := 29) rfl))) (by decide) (W.MetN.pay (W := 0) (c_add1 l Z a0 hw x302 t288 t289 x293 _ _ _ (FP.i2d (own_db dn 0)) (FP.i2d (own_db dn 1)) (FP.i2d (own_db dn 2)) (FP.i2d (own_db dn 3)) (FP.i2d fc) (FP.i2f (own_vb vl 0)) ok0.1 ok0.2.1 ok0.2.2 h303 A303 Fd303 Fv303 Vdq Vfq Vzq hdz hfz hxz) P303 (wd hw (k := 30) rfl) (wd hw (k := 15) rfl) (by decide) (by decide)) (argsL := [(.ref x293), (.double (FP.i2d fc))]) (st0 := []) (lenOf pd_ADD_R_V rfl) rfl rfl (Nat.le_of_eq rfl) (by rw [hml]; rfl) (by decide) (by decide) (fun _ _ _ q => ⟨q.2.1.up P303.sz (allS (Or.inr (by rw [g293]; exact P292.sz)) all0), CHr.keep q.2.2.1 (sfS (Safe.arv P303.al Vzq (by decide)) sf0) P303.chv⟩) at_219 rfl ?_
    intro v304 T304 h304 L304 q304 P304
    obtain ⟨rfl, f304, K304, V304⟩ := q304
    show W.Go p.tables e below _ (T304.setTop (mkF m 222 #[.val (.int pr), .val (.int vl), .val (.int fc), .val (.int dn), .val (.int (1 : Int32)), .val (.int (1 : Int32)), .val (.ref t288), .val (.ref t289), .val (.int (1 : Int32)), .val (.ref x293), .val (.double (FP.i2d fc)), .second, .val (.ref x302)] []))
    refine W.g_aload (pc1 := 224) P304.q at_222 rfl rfl rfl ?_
    refine W.g_iconst (pc1 := 225) (v := (0 : Int32)) P304.q at_224 (by decide) rfl ?_
    refine W.g_iload (pc1 := 227) P304.q at_225 rfl rfl ?_
    refine W.g_iloadN (pc1 := 228) P304.q at_227 rfl rfl ?_
    refine W.g_iloadN (pc1 := 229) P304.q at_228 rfl rfl ?_
    refine W.g_dload (pc1 := 231) P304.q at_229 rfl rfl ?_
    refine P304.callS (pc1 := 234) (wd hw (k := 31) rfl) (wd hw (k := 32) rfl) (wd hw (k := 2) rfl) (wd hw (k := 33) rfl) (by decide) (W.MetN.pay (W := 0) (c_chk01 l Z a0 hw x293 _ _ _ _ _ (FP.i2d fc) 1 vl dn (by decide) ok0.1 ok0.2.1 ok0.2.2 (dcmpV_self ok0.2.2 .l) h304 V304) P304 (wd hw (k := 33) rfl) (wd hw (k := 2) rfl) (by decide) (by decide)) (argsL := [(.ref x293), (.int (0 : Int32)), (.int (1 : Int32)), (.int vl), (.int dn), (.double (FP.i2d fc))]) (st0 := []) (lenOf pd_ADIIIID_R_Z rfl) rfl rfl (Nat.le_of_eq rfl) (by rw [hml]; rfl) (by decide) (by decide) (W.Pure.ok P304.chv) at_231 rfl ?_
    intro v305 T305 h305 L305 q305 P305
    obtain ⟨rfl, rfl, rfl⟩ := q305
    show W.Go p.tables e below _ (T305.setTop (mkF m 234 #[.val (.int pr), .val (.int vl), .val (.int fc), .val (.int dn), .val (.int (1 : Int32)), .val (.int (1 : Int32)), .val (.ref t288), .val (.ref t289), .val (.int (1 : Int32)), .val (.ref x293), .val (.double (FP.i2d fc)), .second, .val (.ref x302)] [(.int (1 : Int32))]))
    refine W.g_ifN (pc2 := 237) P305.q at_234 rfl (by decide) ?_
    refine W.g_aload (pc1 := 239) P305.q at_237 rfl rfl rfl ?_
    refine W.g_iconst (pc1 := 240) (v := (1 : Int32)) P305.q at_239 (by decide) rfl ?_
    refine W.g_iload (pc1 := 242) P305.q at_240 rfl rfl ?_
    refine W.g_iloadN (pc1 := 243) P305.q at_242 rfl rfl ?_
    refine W.g_iloadN (pc1 := 244) P305.q at_243 rfl rfl ?_
    refine W.g_dload (pc1 := 246) P305.q at_244 rfl rfl ?_
    refine P305.callS (pc1 := 249) (wd hw (k := 31) rfl) (wd hw (k := 32) rfl) (wd hw (k := 2) rfl) (wd hw (k := 33) rfl) (by decide) (W.MetN.pay (W := 0) (c_chk10 l Z a0 hw x293 _ _ _ _ _ (FP.i2d fc) 1 vl dn (by decide) own_self h304 V304) P305 (wd hw (k := 33) rfl) (wd hw (k := 2) rfl) (by decide) (by decide)) (argsL := [(.ref x293), (.int (1 : Int32)), (.int (1 : Int32)), (.int vl), (.int dn), (.double (FP.i2d fc))]) (st0 := []) (lenOf pd_ADIIIID_R_Z rfl) rfl rfl (Nat.le_of_eq rfl) (by rw [hml]; rfl) (by decide) (by decide) (W.Pure.ok P305.chv) at_246 rfl ?_
    intro v306 T306 h306 L306 q306 P306
    obtain ⟨rfl, rfl, rfl⟩ := q306
    show W.Go p.tables e below _ (T306.setTop (mkF m 249 #[.val (.int pr), .val (.int vl), .val (.int fc), .val (.int dn), .val (.int (1 : Int32)), .val (.int (1 : Int32)), .val (.ref t288), .val (.ref t289), .val (.int (1 : Int32)), .val (.ref x293), .val (.double (FP.i2d fc)), .second, .val (.ref x302)] [(.int (1 : Int32))]))
    refine W.g_ifN (pc2 := 252) P306.q at_249 rfl (by decide) ?_
    refine W.g_aload (pc1 := 254) P306.q at_252 rfl rfl rfl ?_
    refine W.g_iconst (pc1 := 255) (v := (2 : Int32)) P306.q at_254 (by decide) rfl ?_
    refine W.g_iload (pc1 := 257) P306.q at_255 rfl rfl ?_
    refine W.g_iloadN (pc1 := 258) P306.q at_257 rfl rfl ?_
    refine W.g_iloadN (pc1 := 259) P306.q at_258 rfl rfl ?_
    refine W.g_dload (pc1 := 261) P306.q at_259 rfl rfl ?_
    refine P306.callS (pc1 := 264) (wd hw (k := 31) rfl) (wd hw (k := 32) rfl) (wd hw (k := 2) rfl) (wd hw (k := 33) rfl) (by decide) (W.MetN.pay (W := 0) (c_chk20 l Z a0 hw x293 _ _ _ _ _ (FP.i2d fc) 1 vl dn (by decide) own_self h304 V304) P306 (wd hw (k := 33) rfl) (wd hw (k := 2) rfl) (by decide) (by decide)) (argsL := [(.ref x293), (.int (2 : Int32)), (.int (1 : Int32)), (.int vl), (.int dn), (.double (FP.i2d fc))]) (st0 := []) (lenOf pd_ADIIIID_R_Z rfl) rfl rfl (Nat.le_of_eq rfl) (by rw [hml]; rfl) (by decide) (by decide) (W.Pure.ok P306.chv) at_261 rfl ?_
    intro v307 T307 h307 L307 q307 P307
    obtain ⟨rfl, rfl, rfl⟩ := q307
    show W.Go p.tables e below _ (T307.setTop (mkF m 264 #[.val (.int pr), .val (.int vl), .val (.int fc), .val (.int dn), .val (.int (1 : Int32)), .val (.int (1 : Int32)), .val (.ref t288), .val (.ref t289), .val (.int (1 : Int32)), .val (.ref x293), .val (.double (FP.i2d fc)), .second, .val (.ref x302)] [(.int (1 : Int32))]))
    refine W.g_ifN (pc2 := 267) P307.q at_264 rfl (by decide) ?_
    refine W.g_aload (pc1 := 269) P307.q at_267 rfl rfl rfl ?_
    refine W.g_iconst (pc1 := 270) (v := (3 : Int32)) P307.q at_269 (by decide) rfl ?_
    refine W.g_iload (pc1 := 272) P307.q at_270 rfl rfl ?_
    refine W.g_iloadN (pc1 := 273) P307.q at_272 rfl rfl ?_
    refine W.g_iloadN (pc1 := 274) P307.q at_273 rfl rfl ?_
    refine W.g_dload (pc1 := 276) P307.q at_274 rfl rfl ?_
    refine P307.callS (pc1 := 279) (wd hw (k := 31) rfl) (wd hw (k := 32) rfl) (wd hw (k := 2) rfl) (wd hw (k := 33) rfl) (by decide) (W.MetN.pay (W := 0) (c_chk30 l Z a0 hw x293 _ _ _ _ _ (FP.i2d fc) 1 vl dn (by decide) own_self h304 V304) P307 (wd hw (k := 33) rfl) (wd hw (k := 2) rfl) (by decide) (by decide)) (argsL := [(.ref x293), (.int (3 : Int32)), (.int (1 : Int32)), (.int vl), (.int dn), (.double (FP.i2d fc))]) (st0 := []) (lenOf pd_ADIIIID_R_Z rfl) rfl rfl (Nat.le_of_eq rfl) (by rw [hml]; rfl) (by decide) (by decide) (W.Pure.ok P307.chv) at_276 rfl ?_
    intro v308 T308 h308 L308 q308 P308
    obtain ⟨rfl, rfl, rfl⟩ := q308
    show W.Go p.tables e below _ (T308.setTop (mkF m 279 #[.val (.int pr), .val (.int vl), .val (.int fc), .val (.int dn), .val (.int (1 : Int32)), .val (.int (1 : Int32)), .val (.ref t288), .val (.ref t289), .val (.int (1 : Int32)), .val (.ref x293), .val (.double (FP.i2d fc)), .second, .val (.ref x302)] [(.int (1 : Int32))]))
    refine W.g_ifN (pc2 := 282) P308.q at_279 rfl (by decide) ?_
    refine W.g_iconst (pc1 := 283) (v := (1 : Int32)) P308.q at_282 (by decide) rfl ?_
    refine W.g_goto (pc1 := 287) P308.q at_283 (by decide) rfl ?_
    exact P308.retVN hlk hret (Or.inl rfl) at_287 (by decide) (by decide) ⟨rfl, P308.fr⟩
  · show W.Go p.tables e below _ (s₁.setTop (mkF m 4 #[.val (.int pr), .val (.int vl), .val (.int fc), .val (.int dn), .unset, .unset, .unset, .unset, .unset, .unset, .unset, .unset, .unset] [(.int (2 : Int32))]))
    refine W.g_istore (pc1 := 6) (ls2 := #[.val (.int pr), .val (.int vl), .val (.int fc), .val (.int dn), .val (.int (2 : Int32)), .unset, .unset, .unset, .unset, .unset, .unset, .unset, .unset]) P0.q at_4 rfl rfl ?_
    refine W.g_iload (pc1 := 8) P0.q at_6 rfl rfl ?_
    refine W.g_iconst (pc1 := 9) (v := (1 : Int32)) P0.q at_8 (by decide) rfl ?_
    refine W.g_iand (pc1 := 10) P0.q at_9 rfl ?_
    refine W.g_iload (pc1 := 12) P0.q at_10 rfl rfl ?_
    refine W.g_iconst (pc1 := 13) (v := (1 : Int32)) P0.q at_12 (by decide) rfl ?_
    refine W.g_ishr (pc1 := 14) P0.q at_13 rfl ?_
    refine W.g_iconst (pc1 := 15) (v := (1 : Int32)) P0.q at_14 (by decide) rfl ?_
    refine W.g_iand (pc1 := 16) P0.q at_15 rfl ?_
    refine W.g_iadd (pc1 := 17) P0.q at_16 rfl ?_
    refine W.g_iload (pc1 := 19) P0.q at_17 rfl rfl ?_
    refine W.g_iconst (pc1 := 20) (v := (2 : Int32)) P0.q at_19 (by decide) rfl ?_
    refine W.g_ishr (pc1 := 21) P0.q at_20 rfl ?_
    refine W.g_iconst (pc1 := 22) (v := (1 : Int32)) P0.q at_21 (by decide) rfl ?_
    refine W.g_iand (pc1 := 23) P0.q at_22 rfl ?_
    refine W.g_iadd (pc1 := 24) P0.q at_23 rfl ?_
    refine W.g_iload (pc1 := 26) P0.q at_24 rfl rfl ?_
    refine W.g_iconst (pc1 := 27) (v := (3 : Int32)) P0.q at_26 (by decide) rfl ?_
    refine W.g_ishr (pc1 := 28) P0.q at_27 rfl ?_
    refine W.g_iconst (pc1 := 29) (v := (1 : Int32)) P0.q at_28 (by decide) rfl ?_
    refine W.g_iand (pc1 := 30) P0.q at_29 rfl ?_
    refine W.g_iadd (pc1 := 31) P0.q at_30 rfl ?_
    rw [show (((((2 : Int32) &&& (1 : Int32)) + (((2 : Int32) >>> ((1 : Int32) &&& 31)) &&& (1 : Int32))) + (((2 : Int32) >>> ((2 : Int32) &&& 31)) &&& (1 : Int32))) + (((2 : Int32) >>> ((3 : Int32) &&& 31)) &&& (1 : Int32))) = (1 : Int32) from by decide]
    refine W.g_istore (pc1 := 33) (ls2 := #[.val (.int pr), .val (.int vl), .val (.int fc), .val (.int dn), .val (.int (2 : Int32)), .val (.int (1 : Int32)), .unset, .unset, .unset, .unset, .unset, .unset, .unset]) P0.q at_31 rfl rfl ?_
    refine W.g_iload (pc1 := 35) P0.q at_33 rfl rfl ?_
    refine P0.callS (pc1 := 38) (wd hw (k := 0) rfl) (wd hw (k := 1) rfl) (wd hw (k := 2) rfl) (wd hw (k := 3) rfl) (by decide) (W.MetN.pay (W := 0) (c_ni1 l Z a0 hw h0) P0 (wd hw (k := 3) rfl) (wd hw (k := 2) rfl) (by decide) (by decide)) (argsL := [(.int (1 : Int32))]) (st0 := []) (lenOf pd_I_R_AI rfl) rfl rfl (Nat.le_of_eq rfl) (by rw [hml]; rfl) (by decide) (by decide) (fun _ _ _ q => by obtain ⟨_, _, _, q2, q3, _⟩ := q; exact ⟨q2.up P0.sz all0, CHr.keep (W.Ext.toKeep q3 []) sf0 P0.chv⟩) at_35 rfl ?_
    intro v309 T309 h309 L309 q309 P309
    obtain ⟨t309, k309, rfl, f309, E309, g309, V309⟩ := q309
    show W.Go p.tables e below _ (T309.setTop (mkF m 38 #[.val (.int pr), .val (.int vl), .val (.int fc), .val (.int dn), .val (.int (2 : Int32)), .val (.int (1 : Int32)), .unset, .unset, .unset, .unset, .unset, .unset, .unset] [(.ref t309)]))
    refine W.g_astore (pc1 := 40) (ls2 := #[.val (.int pr), .val (.int vl), .val (.int fc), .val (.int dn), .val (.int (2 : Int32)), .val (.int (1 : Int32)), .val (.ref t309), .unset, .unset, .unset, .unset, .unset, .unset]) P309.q at_38 rfl rfl rfl ?_
    refine W.g_iload (pc1 := 42) P309.q at_40 rfl rfl ?_
    refine P309.callS (pc1 := 45) (wd hw (k := 5) rfl) (wd hw (k := 6) rfl) (wd hw (k := 2) rfl) (wd hw (k := 7) rfl) (by decide) (W.MetN.pay (W := 0) (c_nf1 l Z a0 hw h309) P309 (wd hw (k := 7) rfl) (wd hw (k := 2) rfl) (by decide) (by decide)) (argsL := [(.int (1 : Int32))]) (st0 := []) (lenOf pd_I_R_AF rfl) rfl rfl (Nat.le_of_eq rfl) (by rw [hml]; rfl) (by decide) (by decide) (fun _ _ _ q => by obtain ⟨_, _, _, q2, q3, _⟩ := q; exact ⟨q2.up P309.sz all0, CHr.keep (W.Ext.toKeep q3 []) sf0 P309.chv⟩) at_42 rfl ?_
    intro v310 T310 h310 L310 q310 P310
    obtain ⟨t310, k310, rfl, f310, E310, g310, V310⟩ := q310
    show W.Go p.tables e below _ (T310.setTop (mkF m 45 #[.val (.int pr), .val (.int vl), .val (.int fc), .val (.int dn), .val (.int (2 : Int32)), .val (.int (1 : Int32)), .val (.ref t309), .unset, .unset, .unset, .unset, .unset, .unset] [(.ref t310)]))
    have hdf : t309 ≠ t310 := Nat.ne_of_lt (Nat.lt_of_lt_of_le V309.lt g310)
    have Vd0 := V309.ext E310
    refine W.g_astore (pc1 := 47) (ls2 := #[.val (.int pr), .val (.int vl), .val (.int fc), .val (.int dn), .val (.int (2 : Int32)), .val (.int (1 : Int32)), .val (.ref t309), .val (.ref t310), .unset, .unset, .unset, .unset, .unset]) P310.q at_45 rfl rfl rfl ?_
    refine W.g_iconst (pc1 := 48) (v := (0 : Int32)) P310.q at_47 (by decide) rfl ?_
    refine W.g_istore (pc1 := 50) (ls2 := #[.val (.int pr), .val (.int vl), .val (.int fc), .val (.int dn), .val (.int (2 : Int32)), .val (.int (1 : Int32)), .val (.ref t309), .val (.ref t310), .val (.int (0 : Int32)), .unset, .unset, .unset, .unset]) P310.q at_48 rfl rfl ?_
    refine W.g_iload (pc1 := 52) P310.q at_50 rfl rfl ?_
    refine W.g_iconst (pc1 := 53) (v := (1 : Int32)) P310.q at_52 (by decide) rfl ?_
    refine W.g_iand (pc1 := 54) P310.q at_53 rfl ?_
    refine W.g_ifY (pc1 := 76) P310.q at_54 (by decide) rfl (by decide) ?_
    refine W.g_iload (pc1 := 78) P310.q at_76 rfl rfl ?_
    refine W.g_iconst (pc1 := 79) (v := (2 : Int32)) P310.q at_78 (by decide) rfl ?_
    refine W.g_iand (pc1 := 80) P310.q at_79 rfl ?_
    refine W.g_ifN (pc2 := 83) P310.q at_80 rfl (by decide) ?_
    refine W.g_aload (pc1 := 85) P310.q at_83 rfl rfl rfl ?_
    refine W.g_iload (pc1 := 87) P310.q at_85 rfl rfl ?_
    refine W.g_iconst (pc1 := 88) (v := (1 : Int32)) P310.q at_87 (by decide) rfl ?_
    refine P310.stI (pc1 := 89) (i := 0) Vd0 (by decide) (by decide) (Nat.le_of_ble_eq_true rfl) rfl (Or.inr (Nat.le_trans P0.sz g309)) (Safe.arv P310.al Vd0 (by decide)) at_88 rfl ?_
    intro T311 h311 P311 W311 V311
    have Vf311 := V310.other W311 (Ne.symm hdf)
    refine W.g_aload (pc1 := 91) P311.q at_89 rfl rfl rfl ?_
    refine W.g_iload (pc1 := 93) P311.q at_91 rfl rfl ?_
    refine W.g_iloadN (pc1 := 94) P311.q at_93 rfl rfl ?_
    refine W.g_iconst (pc1 := 95) (v := (1 : Int32)) P311.q at_94 (by decide) rfl ?_
    refine P311.callS (pc1 := 98) (wd hw (k := 34) rfl) (wd hw (k := 35) rfl) (wd hw (k := 2) rfl) (wd hw (k := 36) rfl) (by decide) (W.MetN.pay (W := 2) (c_val l Z a0 hw vl 1 h311) P311 (wd hw (k := 36) rfl) (wd hw (k := 2) rfl) (by decide) (by decide)) (argsL := [(.int vl), (.int (1 : Int32))]) (st0 := [(.int (0 : Int32)), (.ref t310)]) (lenOf pd_II_R_F rfl) rfl rfl (Nat.le_of_eq rfl) (by rw [hml]; rfl) (by decide) (by decide) (W.Pure.ok P311.chv) at_95 rfl ?_
    intro v312 T312 h312 L312 q312 P312
    obtain ⟨rfl, rfl, rfl⟩ := q312
    show W.Go p.tables e below _ (T312.setTop (mkF m 98 #[.val (.int pr), .val (.int vl), .val (.int fc), .val (.int dn), .val (.int (2 : Int32)), .val (.int (1 : Int32)), .val (.ref t309), .val (.ref t310), .val (.int (0 : Int32)), .unset, .unset, .unset, .unset] [(.float (FP.i2f (own_vb vl 1))), (.int (0 : Int32)), (.ref t310)]))
    refine P312.stF (pc1 := 99) (i := 0) Vf311 (by decide) (by decide) (Nat.le_of_ble_eq_true rfl) rfl (Or.inr (Nat.le_trans P309.sz g310)) (Safe.arv P312.al Vf311 (by decide)) at_98 rfl ?_
    intro T313 h313 P313 W313 V313
    have Vd313 := V311.other W313 hdf
    refine W.g_iinc (pc1 := 102) (ls2 := #[.val (.int pr), .val (.int vl), .val (.int fc), .val (.int dn), .val (.int (2 : Int32)), .val (.int (1 : Int32)), .val (.ref t309), .val (.ref t310), .val (.int ((0 : Int32) + Int32.ofInt 1)), .unset, .unset, .unset, .unset]) P313.q at_99 rfl rfl rfl ?_
    show W.Go p.tables e below _ (T313.setTop (mkF m 102 #[.val (.int pr), .val (.int vl), .val (.int fc), .val (.int dn), .val (.int (2 : Int32)), .val (.int (1 : Int32)), .val (.ref t309), .val (.ref t310), .val (.int (1 : Int32)), .unset, .unset, .unset, .unset] []))
    refine W.g_iload (pc1 := 104) P313.q at_102 rfl rfl ?_
    refine W.g_iconst (pc1 := 105) (v := (4 : Int32)) P313.q at_104 (by decide) rfl ?_
    refine W.g_iand (pc1 := 106) P313.q at_105 rfl ?_
    refine W.g_ifY (pc1 := 128) P313.q at_106 (by decide) rfl (by decide) ?_
    refine W.g_iload (pc1 := 130) P313.q at_128 rfl rfl ?_
    refine W.g_bipush (pc1 := 132) (v := (8 : Int32)) P313.q at_130 (by decide) rfl ?_
    refine W.g_iand (pc1 := 133) P313.q at_132 rfl ?_
    refine W.g_ifY (pc1 := 155) P313.q at_133 (by decide) rfl (by decide) ?_
    refine W.g_iconst (pc1 := 156) (v := (4 : Int32)) P313.q at_155 (by decide) rfl ?_
    refine P313.newP (pc1 := 158) (cap := 4) (wd hw (k := 9) rfl) (by decide) (by decide) (by decide) (by decide) (by decide) at_156 rfl ?_
    intro T314 h314 x314 k314 g314 P314 E314 V314
    have Vd314 := Vd313.ext E314
    have Vf314 := V313.ext E314
    have hdz : t309 ≠ x314 := Nat.ne_of_lt (by rw [g314]; exact Vd313.lt)
    have hfz : t310 ≠ x314 := Nat.ne_of_lt (by rw [g314]; exact V313.lt)
    refine W.g_astore (pc1 := 160) (ls2 := #[.val (.int pr), .val (.int vl), .val (.int fc), .val (.int dn), .val (.int (2 : Int32)), .val (.int (1 : Int32)), .val (.ref t309), .val (.ref t310), .val (.int (1 : Int32)), .val (.ref x314), .unset, .unset, .unset]) P314.q at_158 rfl rfl rfl ?_
    refine W.g_aload (pc1 := 162) P314.q at_160 rfl rfl rfl ?_
    refine W.g_iconst (pc1 := 163) (v := (0 : Int32)) P314.q at_162 (by decide) rfl ?_
    refine W.g_iloadN (pc1 := 164) P314.q at_163 rfl rfl ?_
    refine W.g_iconst (pc1 := 165) (v := (0 : Int32)) P314.q at_164 (by decide) rfl ?_
    refine P314.callS (pc1 := 168) (wd hw (k := 10) rfl) (wd hw (k := 11) rfl) (wd hw (k := 2) rfl) (wd hw (k := 12) rfl) (by decide) (W.MetN.pay (W := 2) (c_dv l Z a0 hw dn 0 h314) P314 (wd hw (k := 12) rfl) (wd hw (k := 2) rfl) (by decide) (by decide)) (argsL := [(.int dn), (.int (0 : Int32))]) (st0 := [(.int (0 : Int32)), (.ref x314)]) (lenOf pd_II_R_D rfl) rfl rfl (Nat.le_of_eq rfl) (by rw [hml]; rfl) (by decide) (by decide) (W.Pure.ok P314.chv) at_165 rfl ?_
    intro v315 T315 h315 L315 q315 P315
    obtain ⟨rfl, rfl, rfl⟩ := q315
    show W.Go p.tables e below _ (T315.setTop (mkF m 168 #[.val (.int pr), .val (.int vl), .val (.int fc), .val (.int dn), .val (.int (2 : Int32)), .val (.int (1 : Int32)), .val (.ref t309), .val (.ref t310), .val (.int (1 : Int32)), .val (.ref x314), .unset, .unset, .unset] [(.double (FP.i2d (own_db dn 0))), (.int (0 : Int32)), (.ref x314)]))
    refine P315.stD (pc1 := 169) (i := 0) V314 (by decide) (by decide) (Nat.le_of_ble_eq_true rfl) rfl (Or.inr (by rw [g314]; exact P313.sz)) (Safe.arv P315.al V314 (by decide)) at_168 rfl ?_
    intro T316 h316 P316 W316 V316
    have Vd316 := Vd314.other W316 hdz
    have Vf316 := Vf314.other W316 hfz
    refine W.g_aload (pc1 := 171) P316.q at_169 rfl rfl rfl ?_
    refine W.g_iconst (pc1 := 172) (v := (1 : Int32)) P316.q at_171 (by decide) rfl ?_
    refine W.g_iloadN (pc1 := 173) P316.q at_172 rfl rfl ?_
    refine W.g_iconst (pc1 := 174) (v := (1 : Int32)) P316.q at_173 (by decide) rfl ?_
    refine P316.callS (pc1 := 177) (wd hw (k := 10) rfl) (wd hw (k := 11) rfl) (wd hw (k := 2) rfl) (wd hw (k := 12) rfl) (by decide) (W.MetN.pay (W := 2) (c_dv l Z a0 hw dn 1 h316) P316 (wd hw (k := 12) rfl) (wd hw (k := 2) rfl) (by decide) (by decide)) (argsL := [(.int dn), (.int (1 : Int32))]) (st0 := [(.int (1 : Int32)), (.ref x314)]) (lenOf pd_II_R_D rfl) rfl rfl (Nat.le_of_eq rfl) (by rw [hml]; rfl) (by decide) (by decide) (W.Pure.ok P316.chv) at_174 rfl ?_
    intro v317 T317 h317 L317 q317 P317
    obtain ⟨rfl, rfl, rfl⟩ := q317
    show W.Go p.tables e below _ (T317.setTop (mkF m 177 #[.val (.int pr), .val (.int vl), .val (.int fc), .val (.int dn), .val (.int (2 : Int32)), .val (.int (1 : Int32)), .val (.ref t309), .val (.ref t310), .val (.int (1 : Int32)), .val (.ref x314), .unset, .unset, .unset] [(.double (FP.i2d (own_db dn 1))), (.int (1 : Int32)), (.ref x314)]))
    refine P317.stD (pc1 := 178) (i := 1) V316 (by decide) (by decide) (Nat.le_of_ble_eq_true rfl) rfl (Or.inr (by rw [g314]; exact P313.sz)) (Safe.arv P317.al V316 (by decide)) at_177 rfl ?_
    intro T318 h318 P318 W318 V318
    have Vd318 := Vd316.other W318 hdz
    have Vf318 := Vf316.other W318 hfz
    refine W.g_aload (pc1 := 180) P318.q at_178 rfl rfl rfl ?_
    refine W.g_iconst (pc1 := 181) (v := (2 : Int32)) P318.q at_180 (by decide) rfl ?_
    refine W.g_iloadN (pc1 := 182) P318.q at_181 rfl rfl ?_
    refine W.g_iconst (pc1 := 183) (v := (2 : Int32)) P318.q at_182 (by decide) rfl ?_
    refine P318.callS (pc1 := 186) (wd hw (k := 10) rfl) (wd hw (k := 11) rfl) (wd hw (k := 2) rfl) (wd hw (k := 12) rfl) (by decide) (W.MetN.pay (W := 2) (c_dv l Z a0 hw dn 2 h318) P318 (wd hw (k := 12) rfl) (wd hw (k := 2) rfl) (by decide) (by decide)) (argsL := [(.int dn), (.int (2 : Int32))]) (st0 := [(.int (2 : Int32)), (.ref x314)]) (lenOf pd_II_R_D rfl) rfl rfl (Nat.le_of_eq rfl) (by rw [hml]; rfl) (by decide) (by decide) (W.Pure.ok P318.chv) at_183 rfl ?_
    intro v319 T319 h319 L319 q319 P319
    obtain ⟨rfl, rfl, rfl⟩ := q319
    show W.Go p.tables e below _ (T319.setTop (mkF m 186 #[.val (.int pr), .val (.int vl), .val (.int fc), .val (.int dn), .val (.int (2 : Int32)), .val (.int (1 : Int32)), .val (.ref t309), .val (.ref t310), .val (.int (1 : Int32)), .val (.ref x314), .unset, .unset, .unset] [(.double (FP.i2d (own_db dn 2))), (.int (2 : Int32)), (.ref x314)]))
    refine P319.stD (pc1 := 187) (i := 2) V318 (by decide) (by decide) (Nat.le_of_ble_eq_true rfl) rfl (Or.inr (by rw [g314]; exact P313.sz)) (Safe.arv P319.al V318 (by decide)) at_186 rfl ?_
    intro T320 h320 P320 W320 V320
    have Vd320 := Vd318.other W320 hdz
    have Vf320 := Vf318.other W320 hfz
    refine W.g_aload (pc1 := 189) P320.q at_187 rfl rfl rfl ?_
    refine W.g_iconst (pc1 := 190) (v := (3 : Int32)) P320.q at_189 (by decide) rfl ?_
    refine W.g_iloadN (pc1 := 191) P320.q at_190 rfl rfl ?_
    refine W.g_iconst (pc1 := 192) (v := (3 : Int32)) P320.q at_191 (by decide) rfl ?_
    refine P320.callS (pc1 := 195) (wd hw (k := 10) rfl) (wd hw (k := 11) rfl) (wd hw (k := 2) rfl) (wd hw (k := 12) rfl) (by decide) (W.MetN.pay (W := 2) (c_dv l Z a0 hw dn 3 h320) P320 (wd hw (k := 12) rfl) (wd hw (k := 2) rfl) (by decide) (by decide)) (argsL := [(.int dn), (.int (3 : Int32))]) (st0 := [(.int (3 : Int32)), (.ref x314)]) (lenOf pd_II_R_D rfl) rfl rfl (Nat.le_of_eq rfl) (by rw [hml]; rfl) (by decide) (by decide) (W.Pure.ok P320.chv) at_192 rfl ?_
    intro v321 T321 h321 L321 q321 P321
    obtain ⟨rfl, rfl, rfl⟩ := q321
    show W.Go p.tables e below _ (T321.setTop (mkF m 195 #[.val (.int pr), .val (.int vl), .val (.int fc), .val (.int dn), .val (.int (2 : Int32)), .val (.int (1 : Int32)), .val (.ref t309), .val (.ref t310), .val (.int (1 : Int32)), .val (.ref x314), .unset, .unset, .unset] [(.double (FP.i2d (own_db dn 3))), (.int (3 : Int32)), (.ref x314)]))
    refine P321.stD (pc1 := 196) (i := 3) V320 (by decide) (by decide) (Nat.le_of_ble_eq_true rfl) rfl (Or.inr (by rw [g314]; exact P313.sz)) (Safe.arv P321.al V320 (by decide)) at_195 rfl ?_
    intro T322 h322 P322 W322 V322
    have Vd322 := Vd320.other W322 hdz
    have Vf322 := Vf320.other W322 hfz
    refine W.g_iloadN (pc1 := 197) P322.q at_196 rfl rfl ?_
    refine W.g_i2d (pc1 := 198) P322.q at_197 rfl ?_
    refine W.g_dstore (pc1 := 200) (ls2 := #[.val (.int pr), .val (.int vl), .val (.int fc), .val (.int dn), .val (.int (2 : Int32)), .val (.int (1 : Int32)), .val (.ref t309), .val (.ref t310), .val (.int (1 : Int32)), .val (.ref x314), .val (.double (FP.i2d fc)), .second, .unset]) P322.q at_198 rfl rfl ?_
    refine P322.newO (pc1 := 203) (wd hw (k := 13) rfl) (wd hw (k := 14) rfl) (wd hw (k := 15) rfl) (by decide) (by decide) at_200 rfl ?_
    intro T323 h323 x323 g323 P323 E323 A323 D323 U323
    refine W.g_dup (pc1 := 204) P323.q at_203 rfl rfl ?_
    refine W.g_aload (pc1 := 206) P323.q at_204 rfl rfl rfl ?_
    refine W.g_aload (pc1 := 208) P323.q at_206 rfl rfl rfl ?_
    have Ndimensions : Fld Z h323 x323 "com/example/intent_search/intentsearch/rank/CategoryVector" "dimensions" "[I" .null := D323 (Or.inr (wd hw (k := 23) rfl)) (ty := (.array .int)) (by decide)
    have Nvalues : Fld Z h323 x323 "com/example/intent_search/intentsearch/rank/CategoryVector" "values" "[F" .null := D323 (Or.inr (wd hw (k := 25) rfl)) (ty := (.array .float)) (by decide)
    refine P323.callN (pc1 := 211) rfl (wd hw (k := 16) rfl) (wd hw (k := 17) rfl) (wd hw (k := 18) rfl) (by decide) (W.MetN.pay (W := 1) (c_cv l Z a0 hw x323 t309 t310 h323 A323 _ Ndimensions _ Nvalues) P323 (wd hw (k := 18) rfl) (wd hw (k := 15) rfl) (by decide) (by decide)) (argsL := [(.ref t309), (.ref t310)]) (st0 := [(.ref x323)]) (lenOf pd_AIAF_R_V rfl) rfl rfl (Nat.le_of_eq rfl) (by rw [hml]; rfl) (by decide) (by decide) (fun _ _ _ q => ⟨q.2.1.up P323.sz (allS (Or.inr (by rw [g323]; exact P322.sz)) all0), CHr.keep q.2.2.1 (sfS (Safe.exa P323.al A323 (by decide) (by decide)) sf0) P323.chv⟩) at_208 rfl ?_
    intro v324 T324 h324 L324 q324 P324
    obtain ⟨rfl, f324, K324, A324, Fd324, Fv324⟩ := q324
    show W.Go p.tables e below _ (T324.setTop (mkF m 211 #[.val (.int pr), .val (.int vl), .val (.int fc), .val (.int dn), .val (.int (2 : Int32)), .val (.int (1 : Int32)), .val (.ref t309), .val (.ref t310), .val (.int (1 : Int32)), .val (.ref x314), .val (.double (FP.i2d fc)), .second, .unset] [(.ref x323)]))
    have Vdq := (Vd322.ext E323).keep K324 (ninS (Ne.symm (Exa.neArv A323 (Vd322.ext E323) (wd hw (k := 14) rfl))) nin0)
    have Vfq := (Vf322.ext E323).keep K324 (ninS (Ne.symm (Exa.neArv A323 (Vf322.ext E323) (wd hw (k := 14) rfl))) nin0)
    have Vzq := (V322.ext E323).keep K324 (ninS (Ne.symm (Exa.neArv A323 (V322.ext E323) (wd hw (k := 14) rfl))) nin0)
    have hxz : x323 ≠ x314 := Exa.neArv A324 Vzq (wd hw (k := 14) rfl)
    refine W.g_astore (pc1 := 213) (ls2 := #[.val (.int pr), .val (.int vl), .val (.int fc), .val (.int dn), .val (.int (2 : Int32)), .val (.int (1 : Int32)), .val (.ref t309), .val (.ref t310), .val (.int (1 : Int32)), .val (.ref x314), .val (.double (FP.i2d fc)), .second, .val (.ref x323)]) P324.q at_211 rfl rfl rfl ?_
    refine W.g_aload (pc1 := 215) P324.q at_213 rfl rfl rfl ?_
    refine W.g_aload (pc1 := 217) P324.q at_215 rfl rfl rfl ?_
    refine W.g_dload (pc1 := 219) P324.q at_217 rfl rfl ?_
    have ok0 := own_one (f := fc) (own_dbb dn 0) (own_vbb vl 0)
    have ok1 := own_one (f := fc) (own_dbb dn 1) (own_vbb vl 1)
    have ok2 := own_one (f := fc) (own_dbb dn 2) (own_vbb vl 2)
    have ok3 := own_one (f := fc) (own_dbb dn 3) (own_vbb vl 3)
    refine P324.callV (pc1 := 222) A324 (wd hw (k := 26) rfl) (wd hw (k := 27) rfl) (wd hw (k := 29) rfl) (wd hw (k := 28) rfl) (notFace_of_selects (args := #[]) (mvT P324.hz (wd hw (k := 29) rfl))) (by decide) (W.MetN.pay (W := 0) (c_add2 l Z a0 hw x323 t309 t310 x314 _ _ _ (FP.i2d (own_db dn 0)) (FP.i2d (own_db dn 1)) (FP.i2d (own_db dn 2)) (FP.i2d (own_db dn 3)) (FP.i2d fc) (FP.i2f (own_vb vl 1)) ok1.1 ok1.2.1 ok1.2.2 h324 A324 Fd324 Fv324 Vdq Vfq Vzq hdz hfz hxz) P324 (wd hw (k := 30) rfl) (wd hw (k := 15) rfl) (by decide) (by decide)) (argsL := [(.ref x314), (.double (FP.i2d fc))]) (st0 := []) (lenOf pd_ADD_R_V rfl) rfl rfl (Nat.le_of_eq rfl) (by rw [hml]; rfl) (by decide) (by decide) (fun _ _ _ q => ⟨q.2.1.up P324.sz (allS (Or.inr (by rw [g314]; exact P313.sz)) all0), CHr.keep q.2.2.1 (sfS (Safe.arv P324.al Vzq (by decide)) sf0) P324.chv⟩) at_219 rfl ?_
    intro v325 T325 h325 L325 q325 P325
    obtain ⟨rfl, f325, K325, V325⟩ := q325
    show W.Go p.tables e below _ (T325.setTop (mkF m 222 #[.val (.int pr), .val (.int vl), .val (.int fc), .val (.int dn), .val (.int (2 : Int32)), .val (.int (1 : Int32)), .val (.ref t309), .val (.ref t310), .val (.int (1 : Int32)), .val (.ref x314), .val (.double (FP.i2d fc)), .second, .val (.ref x323)] []))
    refine W.g_aload (pc1 := 224) P325.q at_222 rfl rfl rfl ?_
    refine W.g_iconst (pc1 := 225) (v := (0 : Int32)) P325.q at_224 (by decide) rfl ?_
    refine W.g_iload (pc1 := 227) P325.q at_225 rfl rfl ?_
    refine W.g_iloadN (pc1 := 228) P325.q at_227 rfl rfl ?_
    refine W.g_iloadN (pc1 := 229) P325.q at_228 rfl rfl ?_
    refine W.g_dload (pc1 := 231) P325.q at_229 rfl rfl ?_
    refine P325.callS (pc1 := 234) (wd hw (k := 31) rfl) (wd hw (k := 32) rfl) (wd hw (k := 2) rfl) (wd hw (k := 33) rfl) (by decide) (W.MetN.pay (W := 0) (c_chk00 l Z a0 hw x314 _ _ _ _ _ (FP.i2d fc) 2 vl dn (by decide) own_self h325 V325) P325 (wd hw (k := 33) rfl) (wd hw (k := 2) rfl) (by decide) (by decide)) (argsL := [(.ref x314), (.int (0 : Int32)), (.int (2 : Int32)), (.int vl), (.int dn), (.double (FP.i2d fc))]) (st0 := []) (lenOf pd_ADIIIID_R_Z rfl) rfl rfl (Nat.le_of_eq rfl) (by rw [hml]; rfl) (by decide) (by decide) (W.Pure.ok P325.chv) at_231 rfl ?_
    intro v326 T326 h326 L326 q326 P326
    obtain ⟨rfl, rfl, rfl⟩ := q326
    show W.Go p.tables e below _ (T326.setTop (mkF m 234 #[.val (.int pr), .val (.int vl), .val (.int fc), .val (.int dn), .val (.int (2 : Int32)), .val (.int (1 : Int32)), .val (.ref t309), .val (.ref t310), .val (.int (1 : Int32)), .val (.ref x314), .val (.double (FP.i2d fc)), .second, .val (.ref x323)] [(.int (1 : Int32))]))
    refine W.g_ifN (pc2 := 237) P326.q at_234 rfl (by decide) ?_
    refine W.g_aload (pc1 := 239) P326.q at_237 rfl rfl rfl ?_
    refine W.g_iconst (pc1 := 240) (v := (1 : Int32)) P326.q at_239 (by decide) rfl ?_
    refine W.g_iload (pc1 := 242) P326.q at_240 rfl rfl ?_
    refine W.g_iloadN (pc1 := 243) P326.q at_242 rfl rfl ?_
    refine W.g_iloadN (pc1 := 244) P326.q at_243 rfl rfl ?_
    refine W.g_dload (pc1 := 246) P326.q at_244 rfl rfl ?_
    refine P326.callS (pc1 := 249) (wd hw (k := 31) rfl) (wd hw (k := 32) rfl) (wd hw (k := 2) rfl) (wd hw (k := 33) rfl) (by decide) (W.MetN.pay (W := 0) (c_chk11 l Z a0 hw x314 _ _ _ _ _ (FP.i2d fc) 2 vl dn (by decide) ok1.1 ok1.2.1 ok1.2.2 (dcmpV_self ok1.2.2 .l) h325 V325) P326 (wd hw (k := 33) rfl) (wd hw (k := 2) rfl) (by decide) (by decide)) (argsL := [(.ref x314), (.int (1 : Int32)), (.int (2 : Int32)), (.int vl), (.int dn), (.double (FP.i2d fc))]) (st0 := []) (lenOf pd_ADIIIID_R_Z rfl) rfl rfl (Nat.le_of_eq rfl) (by rw [hml]; rfl) (by decide) (by decide) (W.Pure.ok P326.chv) at_246 rfl ?_
    intro v327 T327 h327 L327 q327 P327
    obtain ⟨rfl, rfl, rfl⟩ := q327
    show W.Go p.tables e below _ (T327.setTop (mkF m 249 #[.val (.int pr), .val (.int vl), .val (.int fc), .val (.int dn), .val (.int (2 : Int32)), .val (.int (1 : Int32)), .val (.ref t309), .val (.ref t310), .val (.int (1 : Int32)), .val (.ref x314), .val (.double (FP.i2d fc)), .second, .val (.ref x323)] [(.int (1 : Int32))]))
    refine W.g_ifN (pc2 := 252) P327.q at_249 rfl (by decide) ?_
    refine W.g_aload (pc1 := 254) P327.q at_252 rfl rfl rfl ?_
    refine W.g_iconst (pc1 := 255) (v := (2 : Int32)) P327.q at_254 (by decide) rfl ?_
    refine W.g_iload (pc1 := 257) P327.q at_255 rfl rfl ?_
    refine W.g_iloadN (pc1 := 258) P327.q at_257 rfl rfl ?_
    refine W.g_iloadN (pc1 := 259) P327.q at_258 rfl rfl ?_
    refine W.g_dload (pc1 := 261) P327.q at_259 rfl rfl ?_
    refine P327.callS (pc1 := 264) (wd hw (k := 31) rfl) (wd hw (k := 32) rfl) (wd hw (k := 2) rfl) (wd hw (k := 33) rfl) (by decide) (W.MetN.pay (W := 0) (c_chk20 l Z a0 hw x314 _ _ _ _ _ (FP.i2d fc) 2 vl dn (by decide) own_self h325 V325) P327 (wd hw (k := 33) rfl) (wd hw (k := 2) rfl) (by decide) (by decide)) (argsL := [(.ref x314), (.int (2 : Int32)), (.int (2 : Int32)), (.int vl), (.int dn), (.double (FP.i2d fc))]) (st0 := []) (lenOf pd_ADIIIID_R_Z rfl) rfl rfl (Nat.le_of_eq rfl) (by rw [hml]; rfl) (by decide) (by decide) (W.Pure.ok P327.chv) at_261 rfl ?_
    intro v328 T328 h328 L328 q328 P328
    obtain ⟨rfl, rfl, rfl⟩ := q328
    show W.Go p.tables e below _ (T328.setTop (mkF m 264 #[.val (.int pr), .val (.int vl), .val (.int fc), .val (.int dn), .val (.int (2 : Int32)), .val (.int (1 : Int32)), .val (.ref t309), .val (.ref t310), .val (.int (1 : Int32)), .val (.ref x314), .val (.double (FP.i2d fc)), .second, .val (.ref x323)] [(.int (1 : Int32))]))
    refine W.g_ifN (pc2 := 267) P328.q at_264 rfl (by decide) ?_
    refine W.g_aload (pc1 := 269) P328.q at_267 rfl rfl rfl ?_
    refine W.g_iconst (pc1 := 270) (v := (3 : Int32)) P328.q at_269 (by decide) rfl ?_
    refine W.g_iload (pc1 := 272) P328.q at_270 rfl rfl ?_
    refine W.g_iloadN (pc1 := 273) P328.q at_272 rfl rfl ?_
    refine W.g_iloadN (pc1 := 274) P328.q at_273 rfl rfl ?_
    refine W.g_dload (pc1 := 276) P328.q at_274 rfl rfl ?_
    refine P328.callS (pc1 := 279) (wd hw (k := 31) rfl) (wd hw (k := 32) rfl) (wd hw (k := 2) rfl) (wd hw (k := 33) rfl) (by decide) (W.MetN.pay (W := 0) (c_chk30 l Z a0 hw x314 _ _ _ _ _ (FP.i2d fc) 2 vl dn (by decide) own_self h325 V325) P328 (wd hw (k := 33) rfl) (wd hw (k := 2) rfl) (by decide) (by decide)) (argsL := [(.ref x314), (.int (3 : Int32)), (.int (2 : Int32)), (.int vl), (.int dn), (.double (FP.i2d fc))]) (st0 := []) (lenOf pd_ADIIIID_R_Z rfl) rfl rfl (Nat.le_of_eq rfl) (by rw [hml]; rfl) (by decide) (by decide) (W.Pure.ok P328.chv) at_276 rfl ?_
    intro v329 T329 h329 L329 q329 P329
    obtain ⟨rfl, rfl, rfl⟩ := q329
    show W.Go p.tables e below _ (T329.setTop (mkF m 279 #[.val (.int pr), .val (.int vl), .val (.int fc), .val (.int dn), .val (.int (2 : Int32)), .val (.int (1 : Int32)), .val (.ref t309), .val (.ref t310), .val (.int (1 : Int32)), .val (.ref x314), .val (.double (FP.i2d fc)), .second, .val (.ref x323)] [(.int (1 : Int32))]))
    refine W.g_ifN (pc2 := 282) P329.q at_279 rfl (by decide) ?_
    refine W.g_iconst (pc1 := 283) (v := (1 : Int32)) P329.q at_282 (by decide) rfl ?_
    refine W.g_goto (pc1 := 287) P329.q at_283 (by decide) rfl ?_
    exact P329.retVN hlk hret (Or.inl rfl) at_287 (by decide) (by decide) ⟨rfl, P329.fr⟩
  · show W.Go p.tables e below _ (s₁.setTop (mkF m 4 #[.val (.int pr), .val (.int vl), .val (.int fc), .val (.int dn), .unset, .unset, .unset, .unset, .unset, .unset, .unset, .unset, .unset] [(.int (3 : Int32))]))
    refine W.g_istore (pc1 := 6) (ls2 := #[.val (.int pr), .val (.int vl), .val (.int fc), .val (.int dn), .val (.int (3 : Int32)), .unset, .unset, .unset, .unset, .unset, .unset, .unset, .unset]) P0.q at_4 rfl rfl ?_
    refine W.g_iload (pc1 := 8) P0.q at_6 rfl rfl ?_
    refine W.g_iconst (pc1 := 9) (v := (1 : Int32)) P0.q at_8 (by decide) rfl ?_
    refine W.g_iand (pc1 := 10) P0.q at_9 rfl ?_
    refine W.g_iload (pc1 := 12) P0.q at_10 rfl rfl ?_
    refine W.g_iconst (pc1 := 13) (v := (1 : Int32)) P0.q at_12 (by decide) rfl ?_
    refine W.g_ishr (pc1 := 14) P0.q at_13 rfl ?_
    refine W.g_iconst (pc1 := 15) (v := (1 : Int32)) P0.q at_14 (by decide) rfl ?_
    refine W.g_iand (pc1 := 16) P0.q at_15 rfl ?_
    refine W.g_iadd (pc1 := 17) P0.q at_16 rfl ?_
    refine W.g_iload (pc1 := 19) P0.q at_17 rfl rfl ?_
    refine W.g_iconst (pc1 := 20) (v := (2 : Int32)) P0.q at_19 (by decide) rfl ?_
    refine W.g_ishr (pc1 := 21) P0.q at_20 rfl ?_
    refine W.g_iconst (pc1 := 22) (v := (1 : Int32)) P0.q at_21 (by decide) rfl ?_
    refine W.g_iand (pc1 := 23) P0.q at_22 rfl ?_
    refine W.g_iadd (pc1 := 24) P0.q at_23 rfl ?_
    refine W.g_iload (pc1 := 26) P0.q at_24 rfl rfl ?_
    refine W.g_iconst (pc1 := 27) (v := (3 : Int32)) P0.q at_26 (by decide) rfl ?_
    refine W.g_ishr (pc1 := 28) P0.q at_27 rfl ?_
    refine W.g_iconst (pc1 := 29) (v := (1 : Int32)) P0.q at_28 (by decide) rfl ?_
    refine W.g_iand (pc1 := 30) P0.q at_29 rfl ?_
    refine W.g_iadd (pc1 := 31) P0.q at_30 rfl ?_
    rw [show (((((3 : Int32) &&& (1 : Int32)) + (((3 : Int32) >>> ((1 : Int32) &&& 31)) &&& (1 : Int32))) + (((3 : Int32) >>> ((2 : Int32) &&& 31)) &&& (1 : Int32))) + (((3 : Int32) >>> ((3 : Int32) &&& 31)) &&& (1 : Int32))) = (2 : Int32) from by decide]
    refine W.g_istore (pc1 := 33) (ls2 := #[.val (.int pr), .val (.int vl), .val (.int fc), .val (.int dn), .val (.int (3 : Int32)), .val (.int (2 : Int32)), .unset, .unset, .unset, .unset, .unset, .unset, .unset]) P0.q at_31 rfl rfl ?_
    refine W.g_iload (pc1 := 35) P0.q at_33 rfl rfl ?_
    refine P0.callS (pc1 := 38) (wd hw (k := 0) rfl) (wd hw (k := 1) rfl) (wd hw (k := 2) rfl) (wd hw (k := 3) rfl) (by decide) (W.MetN.pay (W := 0) (c_ni2 l Z a0 hw h0) P0 (wd hw (k := 3) rfl) (wd hw (k := 2) rfl) (by decide) (by decide)) (argsL := [(.int (2 : Int32))]) (st0 := []) (lenOf pd_I_R_AI rfl) rfl rfl (Nat.le_of_eq rfl) (by rw [hml]; rfl) (by decide) (by decide) (fun _ _ _ q => by obtain ⟨_, _, _, q2, q3, _⟩ := q; exact ⟨q2.up P0.sz all0, CHr.keep (W.Ext.toKeep q3 []) sf0 P0.chv⟩) at_35 rfl ?_
    intro v330 T330 h330 L330 q330 P330
    obtain ⟨t330, k330, rfl, f330, E330, g330, V330⟩ := q330
    show W.Go p.tables e below _ (T330.setTop (mkF m 38 #[.val (.int pr), .val (.int vl), .val (.int fc), .val (.int dn), .val (.int (3 : Int32)), .val (.int (2 : Int32)), .unset, .unset, .unset, .unset, .unset, .unset, .unset] [(.ref t330)]))
    refine W.g_astore (pc1 := 40) (ls2 := #[.val (.int pr), .val (.int vl), .val (.int fc), .val (.int dn), .val (.int (3 : Int32)), .val (.int (2 : Int32)), .val (.ref t330), .unset, .unset, .unset, .unset, .unset, .unset]) P330.q at_38 rfl rfl rfl ?_
    refine W.g_iload (pc1 := 42) P330.q at_40 rfl rfl ?_
    refine P330.callS (pc1 := 45) (wd hw (k := 5) rfl) (wd hw (k := 6) rfl) (wd hw (k := 2) rfl) (wd hw (k := 7) rfl) (by decide) (W.MetN.pay (W := 0) (c_nf2 l Z a0 hw h330) P330 (wd hw (k := 7) rfl) (wd hw (k := 2) rfl) (by decide) (by decide)) (argsL := [(.int (2 : Int32))]) (st0 := []) (lenOf pd_I_R_AF rfl) rfl rfl (Nat.le_of_eq rfl) (by rw [hml]; rfl) (by decide) (by decide) (fun _ _ _ q => by obtain ⟨_, _, _, q2, q3, _⟩ := q; exact ⟨q2.up P330.sz all0, CHr.keep (W.Ext.toKeep q3 []) sf0 P330.chv⟩) at_42 rfl ?_
    intro v331 T331 h331 L331 q331 P331
    obtain ⟨t331, k331, rfl, f331, E331, g331, V331⟩ := q331
    show W.Go p.tables e below _ (T331.setTop (mkF m 45 #[.val (.int pr), .val (.int vl), .val (.int fc), .val (.int dn), .val (.int (3 : Int32)), .val (.int (2 : Int32)), .val (.ref t330), .unset, .unset, .unset, .unset, .unset, .unset] [(.ref t331)]))
    have hdf : t330 ≠ t331 := Nat.ne_of_lt (Nat.lt_of_lt_of_le V330.lt g331)
    have Vd0 := V330.ext E331
    refine W.g_astore (pc1 := 47) (ls2 := #[.val (.int pr), .val (.int vl), .val (.int fc), .val (.int dn), .val (.int (3 : Int32)), .val (.int (2 : Int32)), .val (.ref t330), .val (.ref t331), .unset, .unset, .unset, .unset, .unset]) P331.q at_45 rfl rfl rfl ?_
    refine W.g_iconst (pc1 := 48) (v := (0 : Int32)) P331.q at_47 (by decide) rfl ?_
    refine W.g_istore (pc1 := 50) (ls2 := #[.val (.int pr), .val (.int vl), .val (.int fc), .val (.int dn), .val (.int (3 : Int32)), .val (.int (2 : Int32)), .val (.ref t330), .val (.ref t331), .val (.int (0 : Int32)), .unset, .unset, .unset, .unset]) P331.q at_48 rfl rfl ?_
    refine W.g_iload (pc1 := 52) P331.q at_50 rfl rfl ?_
    refine W.g_iconst (pc1 := 53) (v := (1 : Int32)) P331.q at_52 (by decide) rfl ?_
    refine W.g_iand (pc1 := 54) P331.q at_53 rfl ?_
    refine W.g_ifN (pc2 := 57) P331.q at_54 rfl (by decide) ?_
    refine W.g_aload (pc1 := 59) P331.q at_57 rfl rfl rfl ?_
    refine W.g_iload (pc1 := 61) P331.q at_59 rfl rfl ?_
    refine W.g_iconst (pc1 := 62) (v := (0 : Int32)) P331.q at_61 (by decide) rfl ?_
    refine P331.stI (pc1 := 63) (i := 0) Vd0 (by decide) (by decide) (Nat.le_of_ble_eq_true rfl) rfl (Or.inr (Nat.le_trans P0.sz g330)) (Safe.arv P331.al Vd0 (by decide)) at_62 rfl ?_
    intro T332 h332 P332 W332 V332
    have Vf332 := V331.other W332 (Ne.symm hdf)
    refine W.g_aload (pc1 := 65) P332.q at_63 rfl rfl rfl ?_
    refine W.g_iload (pc1 := 67) P332.q at_65 rfl rfl ?_
    refine W.g_iloadN (pc1 := 68) P332.q at_67 rfl rfl ?_
    refine W.g_iconst (pc1 := 69) (v := (0 : Int32)) P332.q at_68 (by decide) rfl ?_
    refine P332.callS (pc1 := 72) (wd hw (k := 34) rfl) (wd hw (k := 35) rfl) (wd hw (k := 2) rfl) (wd hw (k := 36) rfl) (by decide) (W.MetN.pay (W := 2) (c_val l Z a0 hw vl 0 h332) P332 (wd hw (k := 36) rfl) (wd hw (k := 2) rfl) (by decide) (by decide)) (argsL := [(.int vl), (.int (0 : Int32))]) (st0 := [(.int (0 : Int32)), (.ref t331)]) (lenOf pd_II_R_F rfl) rfl rfl (Nat.le_of_eq rfl) (by rw [hml]; rfl) (by decide) (by decide) (W.Pure.ok P332.chv) at_69 rfl ?_
    intro v333 T333 h333 L333 q333 P333
    obtain ⟨rfl, rfl, rfl⟩ := q333
    show W.Go p.tables e below _ (T333.setTop (mkF m 72 #[.val (.int pr), .val (.int vl), .val (.int fc), .val (.int dn), .val (.int (3 : Int32)), .val (.int (2 : Int32)), .val (.ref t330), .val (.ref t331), .val (.int (0 : Int32)), .unset, .unset, .unset, .unset] [(.float (FP.i2f (own_vb vl 0))), (.int (0 : Int32)), (.ref t331)]))
    refine P333.stF (pc1 := 73) (i := 0) Vf332 (by decide) (by decide) (Nat.le_of_ble_eq_true rfl) rfl (Or.inr (Nat.le_trans P330.sz g331)) (Safe.arv P333.al Vf332 (by decide)) at_72 rfl ?_
    intro T334 h334 P334 W334 V334
    have Vd334 := V332.other W334 hdf
    refine W.g_iinc (pc1 := 76) (ls2 := #[.val (.int pr), .val (.int vl), .val (.int fc), .val (.int dn), .val (.int (3 : Int32)), .val (.int (2 : Int32)), .val (.ref t330), .val (.ref t331), .val (.int ((0 : Int32) + Int32.ofInt 1)), .unset, .unset, .unset, .unset]) P334.q at_73 rfl rfl rfl ?_
    show W.Go p.tables e below _ (T334.setTop (mkF m 76 #[.val (.int pr), .val (.int vl), .val (.int fc), .val (.int dn), .val (.int (3 : Int32)), .val (.int (2 : Int32)), .val (.ref t330), .val (.ref t331), .val (.int (1 : Int32)), .unset, .unset, .unset, .unset] []))
    refine W.g_iload (pc1 := 78) P334.q at_76 rfl rfl ?_
    refine W.g_iconst (pc1 := 79) (v := (2 : Int32)) P334.q at_78 (by decide) rfl ?_
    refine W.g_iand (pc1 := 80) P334.q at_79 rfl ?_
    refine W.g_ifN (pc2 := 83) P334.q at_80 rfl (by decide) ?_
    refine W.g_aload (pc1 := 85) P334.q at_83 rfl rfl rfl ?_
    refine W.g_iload (pc1 := 87) P334.q at_85 rfl rfl ?_
    refine W.g_iconst (pc1 := 88) (v := (1 : Int32)) P334.q at_87 (by decide) rfl ?_
    refine P334.stI (pc1 := 89) (i := 1) Vd334 (by decide) (by decide) (Nat.le_of_ble_eq_true rfl) rfl (Or.inr (Nat.le_trans P0.sz g330)) (Safe.arv P334.al Vd334 (by decide)) at_88 rfl ?_
    intro T335 h335 P335 W335 V335
    have Vf335 := V334.other W335 (Ne.symm hdf)
    refine W.g_aload (pc1 := 91) P335.q at_89 rfl rfl rfl ?_
    refine W.g_iload (pc1 := 93) P335.q at_91 rfl rfl ?_
    refine W.g_iloadN (pc1 := 94) P335.q at_93 rfl rfl ?_
    refine W.g_iconst (pc1 := 95) (v := (1 : Int32)) P335.q at_94 (by decide) rfl ?_
    refine P335.callS (pc1 := 98) (wd hw (k := 34) rfl) (wd hw (k := 35) rfl) (wd hw (k := 2) rfl) (wd hw (k := 36) rfl) (by decide) (W.MetN.pay (W := 2) (c_val l Z a0 hw vl 1 h335) P335 (wd hw (k := 36) rfl) (wd hw (k := 2) rfl) (by decide) (by decide)) (argsL := [(.int vl), (.int (1 : Int32))]) (st0 := [(.int (1 : Int32)), (.ref t331)]) (lenOf pd_II_R_F rfl) rfl rfl (Nat.le_of_eq rfl) (by rw [hml]; rfl) (by decide) (by decide) (W.Pure.ok P335.chv) at_95 rfl ?_
    intro v336 T336 h336 L336 q336 P336
    obtain ⟨rfl, rfl, rfl⟩ := q336
    show W.Go p.tables e below _ (T336.setTop (mkF m 98 #[.val (.int pr), .val (.int vl), .val (.int fc), .val (.int dn), .val (.int (3 : Int32)), .val (.int (2 : Int32)), .val (.ref t330), .val (.ref t331), .val (.int (1 : Int32)), .unset, .unset, .unset, .unset] [(.float (FP.i2f (own_vb vl 1))), (.int (1 : Int32)), (.ref t331)]))
    refine P336.stF (pc1 := 99) (i := 1) Vf335 (by decide) (by decide) (Nat.le_of_ble_eq_true rfl) rfl (Or.inr (Nat.le_trans P330.sz g331)) (Safe.arv P336.al Vf335 (by decide)) at_98 rfl ?_
    intro T337 h337 P337 W337 V337
    have Vd337 := V335.other W337 hdf
    refine W.g_iinc (pc1 := 102) (ls2 := #[.val (.int pr), .val (.int vl), .val (.int fc), .val (.int dn), .val (.int (3 : Int32)), .val (.int (2 : Int32)), .val (.ref t330), .val (.ref t331), .val (.int ((1 : Int32) + Int32.ofInt 1)), .unset, .unset, .unset, .unset]) P337.q at_99 rfl rfl rfl ?_
    show W.Go p.tables e below _ (T337.setTop (mkF m 102 #[.val (.int pr), .val (.int vl), .val (.int fc), .val (.int dn), .val (.int (3 : Int32)), .val (.int (2 : Int32)), .val (.ref t330), .val (.ref t331), .val (.int (2 : Int32)), .unset, .unset, .unset, .unset] []))
    refine W.g_iload (pc1 := 104) P337.q at_102 rfl rfl ?_
    refine W.g_iconst (pc1 := 105) (v := (4 : Int32)) P337.q at_104 (by decide) rfl ?_
    refine W.g_iand (pc1 := 106) P337.q at_105 rfl ?_
    refine W.g_ifY (pc1 := 128) P337.q at_106 (by decide) rfl (by decide) ?_
    refine W.g_iload (pc1 := 130) P337.q at_128 rfl rfl ?_
    refine W.g_bipush (pc1 := 132) (v := (8 : Int32)) P337.q at_130 (by decide) rfl ?_
    refine W.g_iand (pc1 := 133) P337.q at_132 rfl ?_
    refine W.g_ifY (pc1 := 155) P337.q at_133 (by decide) rfl (by decide) ?_
    refine W.g_iconst (pc1 := 156) (v := (4 : Int32)) P337.q at_155 (by decide) rfl ?_
    refine P337.newP (pc1 := 158) (cap := 4) (wd hw (k := 9) rfl) (by decide) (by decide) (by decide) (by decide) (by decide) at_156 rfl ?_
    intro T338 h338 x338 k338 g338 P338 E338 V338
    have Vd338 := Vd337.ext E338
    have Vf338 := V337.ext E338
    have hdz : t330 ≠ x338 := Nat.ne_of_lt (by rw [g338]; exact Vd337.lt)
    have hfz : t331 ≠ x338 := Nat.ne_of_lt (by rw [g338]; exact V337.lt)
    refine W.g_astore (pc1 := 160) (ls2 := #[.val (.int pr), .val (.int vl), .val (.int fc), .val (.int dn), .val (.int (3 : Int32)), .val (.int (2 : Int32)), .val (.ref t330), .val (.ref t331), .val (.int (2 : Int32)), .val (.ref x338), .unset, .unset, .unset]) P338.q at_158 rfl rfl rfl ?_
    refine W.g_aload (pc1 := 162) P338.q at_160 rfl rfl rfl ?_
    refine W.g_iconst (pc1 := 163) (v := (0 : Int32)) P338.q at_162 (by decide) rfl ?_
    refine W.g_iloadN (pc1 := 164) P338.q at_163 rfl rfl ?_
    refine W.g_iconst (pc1 := 165) (v := (0 : Int32)) P338.q at_164 (by decide) rfl ?_
    refine P338.callS (pc1 := 168) (wd hw (k := 10) rfl) (wd hw (k := 11) rfl) (wd hw (k := 2) rfl) (wd hw (k := 12) rfl) (by decide) (W.MetN.pay (W := 2) (c_dv l Z a0 hw dn 0 h338) P338 (wd hw (k := 12) rfl) (wd hw (k := 2) rfl) (by decide) (by decide)) (argsL := [(.int dn), (.int (0 : Int32))]) (st0 := [(.int (0 : Int32)), (.ref x338)]) (lenOf pd_II_R_D rfl) rfl rfl (Nat.le_of_eq rfl) (by rw [hml]; rfl) (by decide) (by decide) (W.Pure.ok P338.chv) at_165 rfl ?_
    intro v339 T339 h339 L339 q339 P339
    obtain ⟨rfl, rfl, rfl⟩ := q339
    show W.Go p.tables e below _ (T339.setTop (mkF m 168 #[.val (.int pr), .val (.int vl), .val (.int fc), .val (.int dn), .val (.int (3 : Int32)), .val (.int (2 : Int32)), .val (.ref t330), .val (.ref t331), .val (.int (2 : Int32)), .val (.ref x338), .unset, .unset, .unset] [(.double (FP.i2d (own_db dn 0))), (.int (0 : Int32)), (.ref x338)]))
    refine P339.stD (pc1 := 169) (i := 0) V338 (by decide) (by decide) (Nat.le_of_ble_eq_true rfl) rfl (Or.inr (by rw [g338]; exact P337.sz)) (Safe.arv P339.al V338 (by decide)) at_168 rfl ?_
    intro T340 h340 P340 W340 V340
    have Vd340 := Vd338.other W340 hdz
    have Vf340 := Vf338.other W340 hfz
    refine W.g_aload (pc1 := 171) P340.q at_169 rfl rfl rfl ?_
    refine W.g_iconst (pc1 := 172) (v := (1 : Int32)) P340.q at_171 (by decide) rfl ?_
    refine W.g_iloadN (pc1 := 173) P340.q at_172 rfl rfl ?_
    refine W.g_iconst (pc1 := 174) (v := (1 : Int32)) P340.q at_173 (by decide) rfl ?_
    refine P340.callS (pc1 := 177) (wd hw (k := 10) rfl) (wd hw (k := 11) rfl) (wd hw (k := 2) rfl) (wd hw (k := 12) rfl) (by decide) (W.MetN.pay (W := 2) (c_dv l Z a0 hw dn 1 h340) P340 (wd hw (k := 12) rfl) (wd hw (k := 2) rfl) (by decide) (by decide)) (argsL := [(.int dn), (.int (1 : Int32))]) (st0 := [(.int (1 : Int32)), (.ref x338)]) (lenOf pd_II_R_D rfl) rfl rfl (Nat.le_of_eq rfl) (by rw [hml]; rfl) (by decide) (by decide) (W.Pure.ok P340.chv) at_174 rfl ?_
    intro v341 T341 h341 L341 q341 P341
    obtain ⟨rfl, rfl, rfl⟩ := q341
    show W.Go p.tables e below _ (T341.setTop (mkF m 177 #[.val (.int pr), .val (.int vl), .val (.int fc), .val (.int dn), .val (.int (3 : Int32)), .val (.int (2 : Int32)), .val (.ref t330), .val (.ref t331), .val (.int (2 : Int32)), .val (.ref x338), .unset, .unset, .unset] [(.double (FP.i2d (own_db dn 1))), (.int (1 : Int32)), (.ref x338)]))
    refine P341.stD (pc1 := 178) (i := 1) V340 (by decide) (by decide) (Nat.le_of_ble_eq_true rfl) rfl (Or.inr (by rw [g338]; exact P337.sz)) (Safe.arv P341.al V340 (by decide)) at_177 rfl ?_
    intro T342 h342 P342 W342 V342
    have Vd342 := Vd340.other W342 hdz
    have Vf342 := Vf340.other W342 hfz
    refine W.g_aload (pc1 := 180) P342.q at_178 rfl rfl rfl ?_
    refine W.g_iconst (pc1 := 181) (v := (2 : Int32)) P342.q at_180 (by decide) rfl ?_
    refine W.g_iloadN (pc1 := 182) P342.q at_181 rfl rfl ?_
    refine W.g_iconst (pc1 := 183) (v := (2 : Int32)) P342.q at_182 (by decide) rfl ?_
    refine P342.callS (pc1 := 186) (wd hw (k := 10) rfl) (wd hw (k := 11) rfl) (wd hw (k := 2) rfl) (wd hw (k := 12) rfl) (by decide) (W.MetN.pay (W := 2) (c_dv l Z a0 hw dn 2 h342) P342 (wd hw (k := 12) rfl) (wd hw (k := 2) rfl) (by decide) (by decide)) (argsL := [(.int dn), (.int (2 : Int32))]) (st0 := [(.int (2 : Int32)), (.ref x338)]) (lenOf pd_II_R_D rfl) rfl rfl (Nat.le_of_eq rfl) (by rw [hml]; rfl) (by decide) (by decide) (W.Pure.ok P342.chv) at_183 rfl ?_
    intro v343 T343 h343 L343 q343 P343
    obtain ⟨rfl, rfl, rfl⟩ := q343
    show W.Go p.tables e below _ (T343.setTop (mkF m 186 #[.val (.int pr), .val (.int vl), .val (.int fc), .val (.int dn), .val (.int (3 : Int32)), .val (.int (2 : Int32)), .val (.ref t330), .val (.ref t331), .val (.int (2 : Int32)), .val (.ref x338), .unset, .unset, .unset] [(.double (FP.i2d (own_db dn 2))), (.int (2 : Int32)), (.ref x338)]))
    refine P343.stD (pc1 := 187) (i := 2) V342 (by decide) (by decide) (Nat.le_of_ble_eq_true rfl) rfl (Or.inr (by rw [g338]; exact P337.sz)) (Safe.arv P343.al V342 (by decide)) at_186 rfl ?_
    intro T344 h344 P344 W344 V344
    have Vd344 := Vd342.other W344 hdz
    have Vf344 := Vf342.other W344 hfz
    refine W.g_aload (pc1 := 189) P344.q at_187 rfl rfl rfl ?_
    refine W.g_iconst (pc1 := 190) (v := (3 : Int32)) P344.q at_189 (by decide) rfl ?_
    refine W.g_iloadN (pc1 := 191) P344.q at_190 rfl rfl ?_
    refine W.g_iconst (pc1 := 192) (v := (3 : Int32)) P344.q at_191 (by decide) rfl ?_
    refine P344.callS (pc1 := 195) (wd hw (k := 10) rfl) (wd hw (k := 11) rfl) (wd hw (k := 2) rfl) (wd hw (k := 12) rfl) (by decide) (W.MetN.pay (W := 2) (c_dv l Z a0 hw dn 3 h344) P344 (wd hw (k := 12) rfl) (wd hw (k := 2) rfl) (by decide) (by decide)) (argsL := [(.int dn), (.int (3 : Int32))]) (st0 := [(.int (3 : Int32)), (.ref x338)]) (lenOf pd_II_R_D rfl) rfl rfl (Nat.le_of_eq rfl) (by rw [hml]; rfl) (by decide) (by decide) (W.Pure.ok P344.chv) at_192 rfl ?_
    intro v345 T345 h345 L345 q345 P345
    obtain ⟨rfl, rfl, rfl⟩ := q345
    show W.Go p.tables e below _ (T345.setTop (mkF m 195 #[.val (.int pr), .val (.int vl), .val (.int fc), .val (.int dn), .val (.int (3 : Int32)), .val (.int (2 : Int32)), .val (.ref t330), .val (.ref t331), .val (.int (2 : Int32)), .val (.ref x338), .unset, .unset, .unset] [(.double (FP.i2d (own_db dn 3))), (.int (3 : Int32)), (.ref x338)]))
    refine P345.stD (pc1 := 196) (i := 3) V344 (by decide) (by decide) (Nat.le_of_ble_eq_true rfl) rfl (Or.inr (by rw [g338]; exact P337.sz)) (Safe.arv P345.al V344 (by decide)) at_195 rfl ?_
    intro T346 h346 P346 W346 V346
    have Vd346 := Vd344.other W346 hdz
    have Vf346 := Vf344.other W346 hfz
    refine W.g_iloadN (pc1 := 197) P346.q at_196 rfl rfl ?_
    refine W.g_i2d (pc1 := 198) P346.q at_197 rfl ?_
    refine W.g_dstore (pc1 := 200) (ls2 := #[.val (.int pr), .val (.int vl), .val (.int fc), .val (.int dn), .val (.int (3 : Int32)), .val (.int (2 : Int32)), .val (.ref t330), .val (.ref t331), .val (.int (2 : Int32)), .val (.ref x338), .val (.double (FP.i2d fc)), .second, .unset]) P346.q at_198 rfl rfl ?_
    refine P346.newO (pc1 := 203) (wd hw (k := 13) rfl) (wd hw (k := 14) rfl) (wd hw (k := 15) rfl) (by decide) (by decide) at_200 rfl ?_
    intro T347 h347 x347 g347 P347 E347 A347 D347 U347
    refine W.g_dup (pc1 := 204) P347.q at_203 rfl rfl ?_
    refine W.g_aload (pc1 := 206) P347.q at_204 rfl rfl rfl ?_
    refine W.g_aload (pc1 := 208) P347.q at_206 rfl rfl rfl ?_
    have Ndimensions : Fld Z h347 x347 "com/example/intent_search/intentsearch/rank/CategoryVector" "dimensions" "[I" .null := D347 (Or.inr (wd hw (k := 23) rfl)) (ty := (.array .int)) (by decide)
    have Nvalues : Fld Z h347 x347 "com/example/intent_search/intentsearch/rank/CategoryVector" "values" "[F" .null := D347 (Or.inr (wd hw (k := 25) rfl)) (ty := (.array .float)) (by decide)
    refine P347.callN (pc1 := 211) rfl (wd hw (k := 16) rfl) (wd hw (k := 17) rfl) (wd hw (k := 18) rfl) (by decide) (W.MetN.pay (W := 1) (c_cv l Z a0 hw x347 t330 t331 h347 A347 _ Ndimensions _ Nvalues) P347 (wd hw (k := 18) rfl) (wd hw (k := 15) rfl) (by decide) (by decide)) (argsL := [(.ref t330), (.ref t331)]) (st0 := [(.ref x347)]) (lenOf pd_AIAF_R_V rfl) rfl rfl (Nat.le_of_eq rfl) (by rw [hml]; rfl) (by decide) (by decide) (fun _ _ _ q => ⟨q.2.1.up P347.sz (allS (Or.inr (by rw [g347]; exact P346.sz)) all0), CHr.keep q.2.2.1 (sfS (Safe.exa P347.al A347 (by decide) (by decide)) sf0) P347.chv⟩) at_208 rfl ?_
    intro v348 T348 h348 L348 q348 P348
    obtain ⟨rfl, f348, K348, A348, Fd348, Fv348⟩ := q348
    show W.Go p.tables e below _ (T348.setTop (mkF m 211 #[.val (.int pr), .val (.int vl), .val (.int fc), .val (.int dn), .val (.int (3 : Int32)), .val (.int (2 : Int32)), .val (.ref t330), .val (.ref t331), .val (.int (2 : Int32)), .val (.ref x338), .val (.double (FP.i2d fc)), .second, .unset] [(.ref x347)]))
    have Vdq := (Vd346.ext E347).keep K348 (ninS (Ne.symm (Exa.neArv A347 (Vd346.ext E347) (wd hw (k := 14) rfl))) nin0)
    have Vfq := (Vf346.ext E347).keep K348 (ninS (Ne.symm (Exa.neArv A347 (Vf346.ext E347) (wd hw (k := 14) rfl))) nin0)
    have Vzq := (V346.ext E347).keep K348 (ninS (Ne.symm (Exa.neArv A347 (V346.ext E347) (wd hw (k := 14) rfl))) nin0)
    have hxz : x347 ≠ x338 := Exa.neArv A348 Vzq (wd hw (k := 14) rfl)
    refine W.g_astore (pc1 := 213) (ls2 := #[.val (.int pr), .val (.int vl), .val (.int fc), .val (.int dn), .val (.int (3 : Int32)), .val (.int (2 : Int32)), .val (.ref t330), .val (.ref t331), .val (.int (2 : Int32)), .val (.ref x338), .val (.double (FP.i2d fc)), .second, .val (.ref x347)]) P348.q at_211 rfl rfl rfl ?_
    refine W.g_aload (pc1 := 215) P348.q at_213 rfl rfl rfl ?_
    refine W.g_aload (pc1 := 217) P348.q at_215 rfl rfl rfl ?_
    refine W.g_dload (pc1 := 219) P348.q at_217 rfl rfl ?_
    have ok0 := own_one (f := fc) (own_dbb dn 0) (own_vbb vl 0)
    have ok1 := own_one (f := fc) (own_dbb dn 1) (own_vbb vl 1)
    have ok2 := own_one (f := fc) (own_dbb dn 2) (own_vbb vl 2)
    have ok3 := own_one (f := fc) (own_dbb dn 3) (own_vbb vl 3)
    refine P348.callV (pc1 := 222) A348 (wd hw (k := 26) rfl) (wd hw (k := 27) rfl) (wd hw (k := 29) rfl) (wd hw (k := 28) rfl) (notFace_of_selects (args := #[]) (mvT P348.hz (wd hw (k := 29) rfl))) (by decide) (W.MetN.pay (W := 0) (c_add3 l Z a0 hw x347 t330 t331 x338 _ _ _ (FP.i2d (own_db dn 0)) (FP.i2d (own_db dn 1)) (FP.i2d (own_db dn 2)) (FP.i2d (own_db dn 3)) (FP.i2d fc) (FP.i2f (own_vb vl 0)) ok0.1 ok0.2.1 ok0.2.2 (FP.i2f (own_vb vl 1)) ok1.1 ok1.2.1 ok1.2.2 h348 A348 Fd348 Fv348 Vdq Vfq Vzq hdz hfz hxz) P348 (wd hw (k := 30) rfl) (wd hw (k := 15) rfl) (by decide) (by decide)) (argsL := [(.ref x338), (.double (FP.i2d fc))]) (st0 := []) (lenOf pd_ADD_R_V rfl) rfl rfl (Nat.le_of_eq rfl) (by rw [hml]; rfl) (by decide) (by decide) (fun _ _ _ q => ⟨q.2.1.up P348.sz (allS (Or.inr (by rw [g338]; exact P337.sz)) all0), CHr.keep q.2.2.1 (sfS (Safe.arv P348.al Vzq (by decide)) sf0) P348.chv⟩) at_219 rfl ?_
    intro v349 T349 h349 L349 q349 P349
    obtain ⟨rfl, f349, K349, V349⟩ := q349
    show W.Go p.tables e below _ (T349.setTop (mkF m 222 #[.val (.int pr), .val (.int vl), .val (.int fc), .val (.int dn), .val (.int (3 : Int32)), .val (.int (2 : Int32)), .val (.ref t330), .val (.ref t331), .val (.int (2 : Int32)), .val (.ref x338), .val (.double (FP.i2d fc)), .second, .val (.ref x347)] []))
    refine W.g_aload (pc1 := 224) P349.q at_222 rfl rfl rfl ?_
    refine W.g_iconst (pc1 := 225) (v := (0 : Int32)) P349.q at_224 (by decide) rfl ?_
    refine W.g_iload (pc1 := 227) P349.q at_225 rfl rfl ?_
    refine W.g_iloadN (pc1 := 228) P349.q at_227 rfl rfl ?_
    refine W.g_iloadN (pc1 := 229) P349.q at_228 rfl rfl ?_
    refine W.g_dload (pc1 := 231) P349.q at_229 rfl rfl ?_
    refine P349.callS (pc1 := 234) (wd hw (k := 31) rfl) (wd hw (k := 32) rfl) (wd hw (k := 2) rfl) (wd hw (k := 33) rfl) (by decide) (W.MetN.pay (W := 0) (c_chk01 l Z a0 hw x338 _ _ _ _ _ (FP.i2d fc) 3 vl dn (by decide) ok0.1 ok0.2.1 ok0.2.2 (dcmpV_self ok0.2.2 .l) h349 V349) P349 (wd hw (k := 33) rfl) (wd hw (k := 2) rfl) (by decide) (by decide)) (argsL := [(.ref x338), (.int (0 : Int32)), (.int (3 : Int32)), (.int vl), (.int dn), (.double (FP.i2d fc))]) (st0 := []) (lenOf pd_ADIIIID_R_Z rfl) rfl rfl (Nat.le_of_eq rfl) (by rw [hml]; rfl) (by decide) (by decide) (W.Pure.ok P349.chv) at_231 rfl ?_
    intro v350 T350 h350 L350 q350 P350
    obtain ⟨rfl, rfl, rfl⟩ := q350
    show W.Go p.tables e below _ (T350.setTop (mkF m 234 #[.val (.int pr), .val (.int vl), .val (.int fc), .val (.int dn), .val (.int (3 : Int32)), .val (.int (2 : Int32)), .val (.ref t330), .val (.ref t331), .val (.int (2 : Int32)), .val (.ref x338), .val (.double (FP.i2d fc)), .second, .val (.ref x347)] [(.int (1 : Int32))]))
    refine W.g_ifN (pc2 := 237) P350.q at_234 rfl (by decide) ?_
    refine W.g_aload (pc1 := 239) P350.q at_237 rfl rfl rfl ?_
    refine W.g_iconst (pc1 := 240) (v := (1 : Int32)) P350.q at_239 (by decide) rfl ?_
    refine W.g_iload (pc1 := 242) P350.q at_240 rfl rfl ?_
    refine W.g_iloadN (pc1 := 243) P350.q at_242 rfl rfl ?_
    refine W.g_iloadN (pc1 := 244) P350.q at_243 rfl rfl ?_
    refine W.g_dload (pc1 := 246) P350.q at_244 rfl rfl ?_
    refine P350.callS (pc1 := 249) (wd hw (k := 31) rfl) (wd hw (k := 32) rfl) (wd hw (k := 2) rfl) (wd hw (k := 33) rfl) (by decide) (W.MetN.pay (W := 0) (c_chk11 l Z a0 hw x338 _ _ _ _ _ (FP.i2d fc) 3 vl dn (by decide) ok1.1 ok1.2.1 ok1.2.2 (dcmpV_self ok1.2.2 .l) h349 V349) P350 (wd hw (k := 33) rfl) (wd hw (k := 2) rfl) (by decide) (by decide)) (argsL := [(.ref x338), (.int (1 : Int32)), (.int (3 : Int32)), (.int vl), (.int dn), (.double (FP.i2d fc))]) (st0 := []) (lenOf pd_ADIIIID_R_Z rfl) rfl rfl (Nat.le_of_eq rfl) (by rw [hml]; rfl) (by decide) (by decide) (W.Pure.ok P350.chv) at_246 rfl ?_
    intro v351 T351 h351 L351 q351 P351
    obtain ⟨rfl, rfl, rfl⟩ := q351
    show W.Go p.tables e below _ (T351.setTop (mkF m 249 #[.val (.int pr), .val (.int vl), .val (.int fc), .val (.int dn), .val (.int (3 : Int32)), .val (.int (2 : Int32)), .val (.ref t330), .val (.ref t331), .val (.int (2 : Int32)), .val (.ref x338), .val (.double (FP.i2d fc)), .second, .val (.ref x347)] [(.int (1 : Int32))]))
    refine W.g_ifN (pc2 := 252) P351.q at_249 rfl (by decide) ?_
    refine W.g_aload (pc1 := 254) P351.q at_252 rfl rfl rfl ?_
    refine W.g_iconst (pc1 := 255) (v := (2 : Int32)) P351.q at_254 (by decide) rfl ?_
    refine W.g_iload (pc1 := 257) P351.q at_255 rfl rfl ?_
    refine W.g_iloadN (pc1 := 258) P351.q at_257 rfl rfl ?_
    refine W.g_iloadN (pc1 := 259) P351.q at_258 rfl rfl ?_
    refine W.g_dload (pc1 := 261) P351.q at_259 rfl rfl ?_
    refine P351.callS (pc1 := 264) (wd hw (k := 31) rfl) (wd hw (k := 32) rfl) (wd hw (k := 2) rfl) (wd hw (k := 33) rfl) (by decide) (W.MetN.pay (W := 0) (c_chk20 l Z a0 hw x338 _ _ _ _ _ (FP.i2d fc) 3 vl dn (by decide) own_self h349 V349) P351 (wd hw (k := 33) rfl) (wd hw (k := 2) rfl) (by decide) (by decide)) (argsL := [(.ref x338), (.int (2 : Int32)), (.int (3 : Int32)), (.int vl), (.int dn), (.double (FP.i2d fc))]) (st0 := []) (lenOf pd_ADIIIID_R_Z rfl) rfl rfl (Nat.le_of_eq rfl) (by rw [hml]; rfl) (by decide) (by decide) (W.Pure.ok P351.chv) at_261 rfl ?_
    intro v352 T352 h352 L352 q352 P352
    obtain ⟨rfl, rfl, rfl⟩ := q352
    show W.Go p.tables e below _ (T352.setTop (mkF m 264 #[.val (.int pr), .val (.int vl), .val (.int fc), .val (.int dn), .val (.int (3 : Int32)), .val (.int (2 : Int32)), .val (.ref t330), .val (.ref t331), .val (.int (2 : Int32)), .val (.ref x338), .val (.double (FP.i2d fc)), .second, .val (.ref x347)] [(.int (1 : Int32))]))
    refine W.g_ifN (pc2 := 267) P352.q at_264 rfl (by decide) ?_
    refine W.g_aload (pc1 := 269) P352.q at_267 rfl rfl rfl ?_
    refine W.g_iconst (pc1 := 270) (v := (3 : Int32)) P352.q at_269 (by decide) rfl ?_
    refine W.g_iload (pc1 := 272) P352.q at_270 rfl rfl ?_
    refine W.g_iloadN (pc1 := 273) P352.q at_272 rfl rfl ?_
    refine W.g_iloadN (pc1 := 274) P352.q at_273 rfl rfl ?_
    refine W.g_dload (pc1 := 276) P352.q at_274 rfl rfl ?_
    refine P352.callS (pc1 := 279) (wd hw (k := 31) rfl) (wd hw (k := 32) rfl) (wd hw (k := 2) rfl) (wd hw (k := 33) rfl) (by decide) (W.MetN.pay (W := 0) (c_chk30 l Z a0 hw x338 _ _ _ _ _ (FP.i2d fc) 3 vl dn (by decide) own_self h349 V349) P352 (wd hw (k := 33) rfl) (wd hw (k := 2) rfl) (by decide) (by decide)) (argsL := [(.ref x338), (.int (3 : Int32)), (.int (3 : Int32)), (.int vl), (.int dn), (.double (FP.i2d fc))]) (st0 := []) (lenOf pd_ADIIIID_R_Z rfl) rfl rfl (Nat.le_of_eq rfl) (by rw [hml]; rfl) (by decide) (by decide) (W.Pure.ok P352.chv) at_276 rfl ?_
    intro v353 T353 h353 L353 q353 P353
    obtain ⟨rfl, rfl, rfl⟩ := q353
    show W.Go p.tables e below _ (T353.setTop (mkF m 279 #[.val (.int pr), .val (.int vl), .val (.int fc), .val (.int dn), .val (.int (3 : Int32)), .val (.int (2 : Int32)), .val (.ref t330), .val (.ref t331), .val (.int (2 : Int32)), .val (.ref x338), .val (.double (FP.i2d fc)), .second, .val (.ref x347)] [(.int (1 : Int32))]))
    refine W.g_ifN (pc2 := 282) P353.q at_279 rfl (by decide) ?_
    refine W.g_iconst (pc1 := 283) (v := (1 : Int32)) P353.q at_282 (by decide) rfl ?_
    refine W.g_goto (pc1 := 287) P353.q at_283 (by decide) rfl ?_
    exact P353.retVN hlk hret (Or.inl rfl) at_287 (by decide) (by decide) ⟨rfl, P353.fr⟩
  · show W.Go p.tables e below _ (s₁.setTop (mkF m 4 #[.val (.int pr), .val (.int vl), .val (.int fc), .val (.int dn), .unset, .unset, .unset, .unset, .unset, .unset, .unset, .unset, .unset] [(.int (4 : Int32))]))
    refine W.g_istore (pc1 := 6) (ls2 := #[.val (.int pr), .val (.int vl), .val (.int fc), .val (.int dn), .val (.int (4 : Int32)), .unset, .unset, .unset, .unset, .unset, .unset, .unset, .unset]) P0.q at_4 rfl rfl ?_
    refine W.g_iload (pc1 := 8) P0.q at_6 rfl rfl ?_
    refine W.g_iconst (pc1 := 9) (v := (1 : Int32)) P0.q at_8 (by decide) rfl ?_
    refine W.g_iand (pc1 := 10) P0.q at_9 rfl ?_
    refine W.g_iload (pc1 := 12) P0.q at_10 rfl rfl ?_
    refine W.g_iconst (pc1 := 13) (v := (1 : Int32)) P0.q at_12 (by decide) rfl ?_
    refine W.g_ishr (pc1 := 14) P0.q at_13 rfl ?_
    refine W.g_iconst (pc1 := 15) (v := (1 : Int32)) P0.q at_14 (by decide) rfl ?_
    refine W.g_iand (pc1 := 16) P0.q at_15 rfl ?_
    refine W.g_iadd (pc1 := 17) P0.q at_16 rfl ?_
    refine W.g_iload (pc1 := 19) P0.q at_17 rfl rfl ?_
    refine W.g_iconst (pc1 := 20) (v := (2 : Int32)) P0.q at_19 (by decide) rfl ?_
    refine W.g_ishr (pc1 := 21) P0.q at_20 rfl ?_
    refine W.g_iconst (pc1 := 22) (v := (1 : Int32)) P0.q at_21 (by decide) rfl ?_
    refine W.g_iand (pc1 := 23) P0.q at_22 rfl ?_
    refine W.g_iadd (pc1 := 24) P0.q at_23 rfl ?_
    refine W.g_iload (pc1 := 26) P0.q at_24 rfl rfl ?_
    refine W.g_iconst (pc1 := 27) (v := (3 : Int32)) P0.q at_26 (by decide) rfl ?_
    refine W.g_ishr (pc1 := 28) P0.q at_27 rfl ?_
    refine W.g_iconst (pc1 := 29) (v := (1 : Int32)) P0.q at_28 (by decide) rfl ?_
    refine W.g_iand (pc1 := 30) P0.q at_29 rfl ?_
    refine W.g_iadd (pc1 := 31) P0.q at_30 rfl ?_
    rw [show (((((4 : Int32) &&& (1 : Int32)) + (((4 : Int32) >>> ((1 : Int32) &&& 31)) &&& (1 : Int32))) + (((4 : Int32) >>> ((2 : Int32) &&& 31)) &&& (1 : Int32))) + (((4 : Int32) >>> ((3 : Int32) &&& 31)) &&& (1 : Int32))) = (1 : Int32) from by decide]
    refine W.g_istore (pc1 := 33) (ls2 := #[.val (.int pr), .val (.int vl), .val (.int fc), .val (.int dn), .val (.int (4 : Int32)), .val (.int (1 : Int32)), .unset, .unset, .unset, .unset, .unset, .unset, .unset]) P0.q at_31 rfl rfl ?_
    refine W.g_iload (pc1 := 35) P0.q at_33 rfl rfl ?_
    refine P0.callS (pc1 := 38) (wd hw (k := 0) rfl) (wd hw (k := 1) rfl) (wd hw (k := 2) rfl) (wd hw (k := 3) rfl) (by decide) (W.MetN.pay (W := 0) (c_ni1 l Z a0 hw h0) P0 (wd hw (k := 3) rfl) (wd hw (k := 2) rfl) (by decide) (by decide)) (argsL := [(.int (1 : Int32))]) (st0 := []) (lenOf pd_I_R_AI rfl) rfl rfl (Nat.le_of_eq rfl) (by rw [hml]; rfl) (by decide) (by decide) (fun _ _ _ q => by obtain ⟨_, _, _, q2, q3, _⟩ := q; exact ⟨q2.up P0.sz all0, CHr.keep (W.Ext.toKeep q3 []) sf0 P0.chv⟩) at_35 rfl ?_
    intro v354 T354 h354 L354 q354 P354
    obtain ⟨t354, k354, rfl, f354, E354, g354, V354⟩ := q354
    show W.Go p.tables e below _ (T354.setTop (mkF m 38 #[.val (.int pr), .val (.int vl), .val (.int fc), .val (.int dn), .val (.int (4 : Int32)), .val (.int (1 : Int32)), .unset, .unset, .unset, .unset, .unset, .unset, .unset] [(.ref t354)]))
    refine W.g_astore (pc1 := 40) (ls2 := #[.val (.int pr), .val (.int vl), .val (.int fc), .val (.int dn), .val (.int (4 : Int32)), .val (.int (1 : Int32)), .val (.ref t354), .unset, .unset, .unset, .unset, .unset, .unset]) P354.q at_38 rfl rfl rfl ?_
    refine W.g_iload (pc1 := 42) P354.q at_40 rfl rfl ?_
    refine P354.callS (pc1 := 45) (wd hw (k := 5) rfl) (wd hw (k := 6) rfl) (wd hw (k := 2) rfl) (wd hw (k := 7) rfl) (by decide) (W.MetN.pay (W := 0) (c_nf1 l Z a0 hw h354) P354 (wd hw (k := 7) rfl) (wd hw (k := 2) rfl) (by decide) (by decide)) (argsL := [(.int (1 : Int32))]) (st0 := []) (lenOf pd_I_R_AF rfl) rfl rfl (Nat.le_of_eq rfl) (by rw [hml]; rfl) (by decide) (by decide) (fun _ _ _ q => by obtain ⟨_, _, _, q2, q3, _⟩ := q; exact ⟨q2.up P354.sz all0, CHr.keep (W.Ext.toKeep q3 []) sf0 P354.chv⟩) at_42 rfl ?_
    intro v355 T355 h355 L355 q355 P355
    obtain ⟨t355, k355, rfl, f355, E355, g355, V355⟩ := q355
    show W.Go p.tables e below _ (T355.setTop (mkF m 45 #[.val (.int pr), .val (.int vl), .val (.int fc), .val (.int dn), .val (.int (4 : Int32)), .val (.int (1 : Int32)), .val (.ref t354), .unset, .unset, .unset, .unset, .unset, .unset] [(.ref t355)]))
    have hdf : t354 ≠ t355 := Nat.ne_of_lt (Nat.lt_of_lt_of_le V354.lt g355)
    have Vd0 := V354.ext E355
    refine W.g_astore (pc1 := 47) (ls2 := #[.val (.int pr), .val (.int vl), .val (.int fc), .val (.int dn), .val (.int (4 : Int32)), .val (.int (1 : Int32)), .val (.ref t354), .val (.ref t355), .unset, .unset, .unset, .unset, .unset]) P355.q at_45 rfl rfl rfl ?_
    refine W.g_iconst (pc1 := 48) (v := (0 : Int32)) P355.q at_47 (by decide) rfl ?_
    refine W.g_istore (pc1 := 50) (ls2 := #[.val (.int pr), .val (.int vl), .val (.int fc), .val (.int dn), .val (.int (4 : Int32)), .val (.int (1 : Int32)), .val (.ref t354), .val (.ref t355), .val (.int (0 : Int32)), .unset, .unset, .unset, .unset]) P355.q at_48 rfl rfl ?_
    refine W.g_iload (pc1 := 52) P355.q at_50 rfl rfl ?_
    refine W.g_iconst (pc1 := 53) (v := (1 : Int32)) P355.q at_52 (by decide) rfl ?_
    refine W.g_iand (pc1 := 54) P355.q at_53 rfl ?_
    refine W.g_ifY (pc1 := 76) P355.q at_54 (by decide) rfl (by decide) ?_
    refine W.g_iload (pc1 := 78) P355.q at_76 rfl rfl ?_
    refine W.g_iconst (pc1 := 79) (v := (2 : Int32)) P355.q at_78 (by decide) rfl ?_
    refine W.g_iand (pc1 := 80) P355.q at_79 rfl ?_
    refine W.g_ifY (pc1 := 102) P355.q at_80 (by decide) rfl (by decide) ?_
    refine W.g_iload (pc1 := 104) P355.q at_102 rfl rfl ?_
    refine W.g_iconst (pc1 := 105) (v := (4 : Int32)) P355.q at_104 (by decide) rfl ?_
    refine W.g_iand (pc1 := 106) P355.q at_105 rfl ?_
    refine W.g_ifN (pc2 := 109) P355.q at_106 rfl (by decide) ?_
    refine W.g_aload (pc1 := 111) P355.q at_109 rfl rfl rfl ?_
    refine W.g_iload (pc1 := 113) P355.q at_111 rfl rfl ?_
    refine W.g_iconst (pc1 := 114) (v := (2 : Int32)) P355.q at_113 (by decide) rfl ?_
    refine P355.stI (pc1 := 115) (i := 0) Vd0 (by decide) (by decide) (Nat.le_of_ble_eq_true rfl) rfl (Or.inr (Nat.le_trans P0.sz g354)) (Safe.arv P355.al Vd0 (by decide)) at_114 rfl ?_
    intro T356 h356 P356 W356 V356
    have Vf356 := V355.other W356 (Ne.symm hdf)
    refine W.g_aload (pc1 := 117) P356.q at_115 rfl rfl rfl ?_
    refine W.g_iload (pc1 := 119) P356.q at_117 rfl rfl ?_
    refine W.g_iloadN (pc1 := 120) P356.q at_119 rfl rfl ?_
    refine W.g_iconst (pc1 := 121) (v := (2 : Int32)) P356.q at_120 (by decide) rfl ?_
    refine P356.callS (pc1 := 124) (wd hw (k := 34) rfl) (wd hw (k := 35) rfl) (wd hw (k := 2) rfl) (wd hw (k := 36) rfl) (by decide) (W.MetN.pay (W := 2) (c_val l Z a0 hw vl 2 h356) P356 (wd hw (k := 36) rfl) (wd hw (k := 2) rfl) (by decide) (by decide)) (argsL := [(.int vl), (.int (2 : Int32))]) (st0 := [(.int (0 : Int32)), (.ref t355)]) (lenOf pd_II_R_F rfl) rfl rfl (Nat.le_of_eq rfl) (by rw [hml]; rfl) (by decide) (by decide) (W.Pure.ok P356.chv) at_121 rfl ?_
    intro v357 T357 h357 L357 q357 P357
    obtain ⟨rfl, rfl, rfl⟩ := q357
    show W.Go p.tables e below _ (T357.setTop (mkF m 124 #[.val (.int pr), .val (.int vl), .val (.int fc), .val (.int dn), .val (.int (4 : Int32)), .val (.int (1 : Int32)), .val (.ref t354), .val (.ref t355), .val (.int (0 : Int32)), .unset, .unset, .unset, .unset] [(.float (FP.i2f (own_vb vl 2))), (.int (0 : Int32)), (.ref t355)]))
    refine P357.stF (pc1 := 125) (i := 0) Vf356 (by decide) (by decide) (Nat.le_of_ble_eq_true rfl) rfl (Or.inr (Nat.le_trans P354.sz g355)) (Safe.arv P357.al Vf356 (by decide)) at_124 rfl ?_
    intro T358 h358 P358 W358 V358
    have Vd358 := V356.other W358 hdf
    refine W.g_iinc (pc1 := 128) (ls2 := #[.val (.int pr), .val (.int vl), .val (.int fc), .val (.int dn), .val (.int (4 : Int32)), .val (.int (1 : Int32)), .val (.ref t354), .val (.ref t355), .val (.int ((0 : Int32) + Int32.ofInt 1)), .unset, .unset, .unset, .unset]) P358.q at_125 rfl rfl rfl ?_
    show W.Go p.tables e below _ (T358.setTop (mkF m 128 #[.val (.int pr), .val (.int vl), .val (.int fc), .val (.int dn), .val (.int (4 : Int32)), .val (.int (1 : Int32)), .val (.ref t354), .val (.ref t355), .val (.int (1 : Int32)), .unset, .unset, .unset, .unset] []))
    refine W.g_iload (pc1 := 130) P358.q at_128 rfl rfl ?_
    refine W.g_bipush (pc1 := 132) (v := (8 : Int32)) P358.q at_130 (by decide) rfl ?_
    refine W.g_iand (pc1 := 133) P358.q at_132 rfl ?_
    refine W.g_ifY (pc1 := 155) P358.q at_133 (by decide) rfl (by decide) ?_
    refine W.g_iconst (pc1 := 156) (v := (4 : Int32)) P358.q at_155 (by decide) rfl ?_
    refine P358.newP (pc1 := 158) (cap := 4) (wd hw (k := 9) rfl) (by decide) (by decide) (by decide) (by decide) (by decide) at_156 rfl ?_
    intro T359 h359 x359 k359 g359 P359 E359 V359
    have Vd359 := Vd358.ext E359
    have Vf359 := V358.ext E359
    have hdz : t354 ≠ x359 := Nat.ne_of_lt (by rw [g359]; exact Vd358.lt)
    have hfz : t355 ≠ x359 := Nat.ne_of_lt (by rw [g359]; exact V358.lt)
    refine W.g_astore (pc1 := 160) (ls2 := #[.val (.int pr), .val (.int vl), .val (.int fc), .val (.int dn), .val (.int (4 : Int32)), .val (.int (1 : Int32)), .val (.ref t354), .val (.ref t355), .val (.int (1 : Int32)), .val (.ref x359), .unset, .unset, .unset]) P359.q at_158 rfl rfl rfl ?_
    refine W.g_aload (pc1 := 162) P359.q at_160 rfl rfl rfl ?_
    refine W.g_iconst (pc1 := 163) (v := (0 : Int32)) P359.q at_162 (by decide) rfl ?_
    refine W.g_iloadN (pc1 := 164) P359.q at_163 rfl rfl ?_
    refine W.g_iconst (pc1 := 165) (v := (0 : Int32)) P359.q at_164 (by decide) rfl ?_
    refine P359.callS (pc1 := 168) (wd hw (k := 10) rfl) (wd hw (k := 11) rfl) (wd hw (k := 2) rfl) (wd hw (k := 12) rfl) (by decide) (W.MetN.pay (W := 2) (c_dv l Z a0 hw dn 0 h359) P359 (wd hw (k := 12) rfl) (wd hw (k := 2) rfl) (by decide) (by decide)) (argsL := [(.int dn), (.int (0 : Int32))]) (st0 := [(.int (0 : Int32)), (.ref x359)]) (lenOf pd_II_R_D rfl) rfl rfl (Nat.le_of_eq rfl) (by rw [hml]; rfl) (by decide) (by decide) (W.Pure.ok P359.chv) at_165 rfl ?_
    intro v360 T360 h360 L360 q360 P360
    obtain ⟨rfl, rfl, rfl⟩ := q360
    show W.Go p.tables e below _ (T360.setTop (mkF m 168 #[.val (.int pr), .val (.int vl), .val (.int fc), .val (.int dn), .val (.int (4 : Int32)), .val (.int (1 : Int32)), .val (.ref t354), .val (.ref t355), .val (.int (1 : Int32)), .val (.ref x359), .unset, .unset, .unset] [(.double (FP.i2d (own_db dn 0))), (.int (0 : Int32)), (.ref x359)]))
    refine P360.stD (pc1 := 169) (i := 0) V359 (by decide) (by decide) (Nat.le_of_ble_eq_true rfl) rfl (Or.inr (by rw [g359]; exact P358.sz)) (Safe.arv P360.al V359 (by decide)) at_168 rfl ?_
    intro T361 h361 P361 W361 V361
    have Vd361 := Vd359.other W361 hdz
    have Vf361 := Vf359.other W361 hfz
    refine W.g_aload (pc1 := 171) P361.q at_169 rfl rfl rfl ?_
    refine W.g_iconst (pc1 := 172) (v := (1 : Int32)) P361.q at_171 (by decide) rfl ?_
    refine W.g_iloadN (pc1 := 173) P361.q at_172 rfl rfl ?_
    refine W.g_iconst (pc1 := 174) (v := (1 : Int32)) P361.q at_173 (by decide) rfl ?_
    refine P361.callS (pc1 := 177) (wd hw (k := 10) rfl) (wd hw (k := 11) rfl) (wd hw (k := 2) rfl) (wd hw (k := 12) rfl) (by decide) (W.MetN.pay (W := 2) (c_dv l Z a0 hw dn 1 h361) P361 (wd hw (k := 12) rfl) (wd hw (k := 2) rfl) (by decide) (by decide)) (argsL := [(.int dn), (.int (1 : Int32))]) (st0 := [(.int (1 : Int32)), (.ref x359)]) (lenOf pd_II_R_D rfl) rfl rfl (Nat.le_of_eq rfl) (by rw [hml]; rfl) (by decide) (by decide) (W.Pure.ok P361.chv) at_174 rfl ?_
    intro v362 T362 h362 L362 q362 P362
    obtain ⟨rfl, rfl, rfl⟩ := q362
    show W.Go p.tables e below _ (T362.setTop (mkF m 177 #[.val (.int pr), .val (.int vl), .val (.int fc), .val (.int dn), .val (.int (4 : Int32)), .val (.int (1 : Int32)), .val (.ref t354), .val (.ref t355), .val (.int (1 : Int32)), .val (.ref x359), .unset, .unset, .unset] [(.double (FP.i2d (own_db dn 1))), (.int (1 : Int32)), (.ref x359)]))
    refine P362.stD (pc1 := 178) (i := 1) V361 (by decide) (by decide) (Nat.le_of_ble_eq_true rfl) rfl (Or.inr (by rw [g359]; exact P358.sz)) (Safe.arv P362.al V361 (by decide)) at_177 rfl ?_
    intro T363 h363 P363 W363 V363
    have Vd363 := Vd361.other W363 hdz
    have Vf363 := Vf361.other W363 hfz
    refine W.g_aload (pc1 := 180) P363.q at_178 rfl rfl rfl ?_
    refine W.g_iconst (pc1 := 181) (v := (2 : Int32)) P363.q at_180 (by decide) rfl ?_
    refine W.g_iloadN (pc1 := 182) P363.q at_181 rfl rfl ?_
    refine W.g_iconst (pc1 := 183) (v := (2 : Int32)) P363.q at_182 (by decide) rfl ?_
    refine P363.callS (pc1 := 186) (wd hw (k := 10) rfl) (wd hw (k := 11) rfl) (wd hw (k := 2) rfl) (wd hw (k := 12) rfl) (by decide) (W.MetN.pay (W := 2) (c_dv l Z a0 hw dn 2 h363) P363 (wd hw (k := 12) rfl) (wd hw (k := 2) rfl) (by decide) (by decide)) (argsL := [(.int dn), (.int (2 : Int32))]) (st0 := [(.int (2 : Int32)), (.ref x359)]) (lenOf pd_II_R_D rfl) rfl rfl (Nat.le_of_eq rfl) (by rw [hml]; rfl) (by decide) (by decide) (W.Pure.ok P363.chv) at_183 rfl ?_
    intro v364 T364 h364 L364 q364 P364
    obtain ⟨rfl, rfl, rfl⟩ := q364
    show W.Go p.tables e below _ (T364.setTop (mkF m 186 #[.val (.int pr), .val (.int vl), .val (.int fc), .val (.int dn), .val (.int (4 : Int32)), .val (.int (1 : Int32)), .val (.ref t354), .val (.ref t355), .val (.int (1 : Int32)), .val (.ref x359), .unset, .unset, .unset] [(.double (FP.i2d (own_db dn 2))), (.int (2 : Int32)), (.ref x359)]))
    refine P364.stD (pc1 := 187) (i := 2) V363 (by decide) (by decide) (Nat.le_of_ble_eq_true rfl) rfl (Or.inr (by rw [g359]; exact P358.sz)) (Safe.arv P364.al V363 (by decide)) at_186 rfl ?_
    intro T365 h365 P365 W365 V365
    have Vd365 := Vd363.other W365 hdz
    have Vf365 := Vf363.other W365 hfz
    refine W.g_aload (pc1 := 189) P365.q at_187 rfl rfl rfl ?_
    refine W.g_iconst (pc1 := 190) (v := (3 : Int32)) P365.q at_189 (by decide) rfl ?_
    refine W.g_iloadN (pc1 := 191) P365.q at_190 rfl rfl ?_
    refine W.g_iconst (pc1 := 192) (v := (3 : Int32)) P365.q at_191 (by decide) rfl ?_
    refine P365.callS (pc1 := 195) (wd hw (k := 10) rfl) (wd hw (k := 11) rfl) (wd hw (k := 2) rfl) (wd hw (k := 12) rfl) (by decide) (W.MetN.pay (W := 2) (c_dv l Z a0 hw dn 3 h365) P365 (wd hw (k := 12) rfl) (wd hw (k := 2) rfl) (by decide) (by decide)) (argsL := [(.int dn), (.int (3 : Int32))]) (st0 := [(.int (3 : Int32)), (.ref x359)]) (lenOf pd_II_R_D rfl) rfl rfl (Nat.le_of_eq rfl) (by rw [hml]; rfl) (by decide) (by decide) (W.Pure.ok P365.chv) at_192 rfl ?_
    intro v366 T366 h366 L366 q366 P366
    obtain ⟨rfl, rfl, rfl⟩ := q366
    show W.Go p.tables e below _ (T366.setTop (mkF m 195 #[.val (.int pr), .val (.int vl), .val (.int fc), .val (.int dn), .val (.int (4 : Int32)), .val (.int (1 : Int32)), .val (.ref t354), .val (.ref t355), .val (.int (1 : Int32)), .val (.ref x359), .unset, .unset, .unset] [(.double (FP.i2d (own_db dn 3))), (.int (3 : Int32)), (.ref x359)]))
    refine P366.stD (pc1 := 196) (i := 3) V365 (by decide) (by decide) (Nat.le_of_ble_eq_true rfl) rfl (Or.inr (by rw [g359]; exact P358.sz)) (Safe.arv P366.al V365 (by decide)) at_195 rfl ?_
    intro T367 h367 P367 W367 V367
    have Vd367 := Vd365.other W367 hdz
    have Vf367 := Vf365.other W367 hfz
    refine W.g_iloadN (pc1 := 197) P367.q at_196 rfl rfl ?_
    refine W.g_i2d (pc1 := 198) P367.q at_197 rfl ?_
    refine W.g_dstore (pc1 := 200) (ls2 := #[.val (.int pr), .val (.int vl), .val (.int fc), .val (.int dn), .val (.int (4 : Int32)), .val (.int (1 : Int32)), .val (.ref t354), .val (.ref t355), .val (.int (1 : Int32)), .val (.ref x359), .val (.double (FP.i2d fc)), .second, .unset]) P367.q at_198 rfl rfl ?_
    refine P367.newO (pc1 := 203) (wd hw (k := 13) rfl) (wd hw (k := 14) rfl) (wd hw (k := 15) rfl) (by decide) (by decide) at_200 rfl ?_
    intro T368 h368 x368 g368 P368 E368 A368 D368 U368
    refine W.g_dup (pc1 := 204) P368.q at_203 rfl rfl ?_
    refine W.g_aload (pc1 := 206) P368.q at_204 rfl rfl rfl ?_
    refine W.g_aload (pc1 := 208) P368.q at_206 rfl rfl rfl ?_
    have Ndimensions : Fld Z h368 x368 "com/example/intent_search/intentsearch/rank/CategoryVector" "dimensions" "[I" .null := D368 (Or.inr (wd hw (k := 23) rfl)) (ty := (.array .int)) (by decide)
    have Nvalues : Fld Z h368 x368 "com/example/intent_search/intentsearch/rank/CategoryVector" "values" "[F" .null := D368 (Or.inr (wd hw (k := 25) rfl)) (ty := (.array .float)) (by decide)
    refine P368.callN (pc1 := 211) rfl (wd hw (k := 16) rfl) (wd hw (k := 17) rfl) (wd hw (k := 18) rfl) (by decide) (W.MetN.pay (W := 1) (c_cv l Z a0 hw x368 t354 t355 h368 A368 _ Ndimensions _ Nvalues) P368 (wd hw (k := 18) rfl) (wd hw (k := 15) rfl) (by decide) (by decide)) (argsL := [(.ref t354), (.ref t355)]) (st0 := [(.ref x368)]) (lenOf pd_AIAF_R_V rfl) rfl rfl (Nat.le_of_eq rfl) (by rw [hml]; rfl) (by decide) (by decide) (fun _ _ _ q => ⟨q.2.1.up P368.sz (allS (Or.inr (by rw [g368]; exact P367.sz)) all0), CHr.keep q.2.2.1 (sfS (Safe.exa P368.al A368 (by decide) (by decide)) sf0) P368.chv⟩) at_208 rfl ?_
    intro v369 T369 h369 L369 q369 P369
    obtain ⟨rfl, f369, K369, A369, Fd369, Fv369⟩ := q369
    show W.Go p.tables e below _ (T369.setTop (mkF m 211 #[.val (.int pr), .val (.int vl), .val (.int fc), .val (.int dn), .val (.int (4 : Int32)), .val (.int (1 : Int32)), .val (.ref t354), .val (.ref t355), .val (.int (1 : Int32)), .val (.ref x359), .val (.double (FP.i2d fc)), .second, .unset] [(.ref x368)]))
    have Vdq := (Vd367.ext E368).keep K369 (ninS (Ne.symm (Exa.neArv A368 (Vd367.ext E368) (wd hw (k := 14) rfl))) nin0)
    have Vfq := (Vf367.ext E368).keep K369 (ninS (Ne.symm (Exa.neArv A368 (Vf367.ext E368) (wd hw (k := 14) rfl))) nin0)
    have Vzq := (V367.ext E368).keep K369 (ninS (Ne.symm (Exa.neArv A368 (V367.ext E368) (wd hw (k := 14) rfl))) nin0)
    have hxz : x368 ≠ x359 := Exa.neArv A369 Vzq (wd hw (k := 14) rfl)
    refine W.g_astore (pc1 := 213) (ls2 := #[.val (.int pr), .val (.int vl), .val (.int fc), .val (.int dn), .val (.int (4 : Int32)), .val (.int (1 : Int32)), .val (.ref t354), .val (.ref t355), .val (.int (1 : Int32)), .val (.ref x359), .val (.double (FP.i2d fc)), .second, .val (.ref x368)]) P369.q at_211 rfl rfl rfl ?_
    refine W.g_aload (pc1 := 215) P369.q at_213 rfl rfl rfl ?_
    refine W.g_aload (pc1 := 217) P369.q at_215 rfl rfl rfl ?_
    refine W.g_dload (pc1 := 219) P369.q at_217 rfl rfl ?_
    have ok0 := own_one (f := fc) (own_dbb dn 0) (own_vbb vl 0)
    have ok1 := own_one (f := fc) (own_dbb dn 1) (own_vbb vl 1)
    have ok2 := own_one (f := fc) (own_dbb dn 2) (own_vbb vl 2)
    have ok3 := own_one (f := fc) (own_dbb dn 3) (own_vbb vl 3)
    refine P369.callV (pc1 := 222) A369 (wd hw (k := 26) rfl) (wd hw (k := 27) rfl) (wd hw (k := 29) rfl) (wd hw (k := 28) rfl) (notFace_of_selects (args := #[]) (mvT P369.hz (wd hw (k := 29) rfl))) (by decide) (W.MetN.pay (W := 0) (c_add4 l Z a0 hw x368 t354 t355 x359 _ _ _ (FP.i2d (own_db dn 0)) (FP.i2d (own_db dn 1)) (FP.i2d (own_db dn 2)) (FP.i2d (own_db dn 3)) (FP.i2d fc) (FP.i2f (own_vb vl 2)) ok2.1 ok2.2.1 ok2.2.2 h369 A369 Fd369 Fv369 Vdq Vfq Vzq hdz hfz hxz) P369 (wd hw (k := 30) rfl) (wd hw (k := 15) rfl) (by decide) (by decide)) (argsL := [(.ref x359), (.double (FP.i2d fc))]) (st0 := []) (lenOf pd_ADD_R_V rfl) rfl rfl (Nat.le_of_eq rfl) (by rw [hml]; rfl) (by decide) (by decide) (fun _ _ _ q => ⟨q.2.1.up P369.sz (allS (Or.inr (by rw [g359]; exact P358.sz)) all0), CHr.keep q.2.2.1 (sfS (Safe.arv P369.al Vzq (by decide)) sf0) P369.chv⟩) at_219 rfl ?_
    intro v370 T370 h370 L370 q370 P370
    obtain ⟨rfl, f370, K370, V370⟩ := q370
    show W.Go p.tables e below _ (T370.setTop (mkF m 222 #[.val (.int pr), .val (.int vl), .val (.int fc), .val (.int dn), .val (.int (4 : Int32)), .val (.int (1 : Int32)), .val (.ref t354), .val (.ref t355), .val (.int (1 : Int32)), .val (.ref x359), .val (.double (FP.i2d fc)), .second, .val (.ref x368)] []))
    refine W.g_aload (pc1 := 224) P370.q at_222 rfl rfl rfl ?_
    refine W.g_iconst (pc1 := 225) (v := (0 : Int32)) P370.q at_224 (by decide) rfl ?_
    refine W.g_iload (pc1 := 227) P370.q at_225 rfl rfl ?_
    refine W.g_iloadN (pc1 := 228) P370.q at_227 rfl rfl ?_
    refine W.g_iloadN (pc1 := 229) P370.q at_228 rfl rfl ?_
    refine W.g_dload (pc1 := 231) P370.q at_229 rfl rfl ?_
    refine P370.callS (pc1 := 234) (wd hw (k := 31) rfl) (wd hw (k := 32) rfl) (wd hw (k := 2) rfl) (wd hw (k := 33) rfl) (by decide) (W.MetN.pay (W := 0) (c_chk00 l Z a0 hw x359 _ _ _ _ _ (FP.i2d fc) 4 vl dn (by decide) own_self h370 V370) P370 (wd hw (k := 33) rfl) (wd hw (k := 2) rfl) (by decide) (by decide)) (argsL := [(.ref x359), (.int (0 : Int32)), (.int (4 : Int32)), (.int vl), (.int dn), (.double (FP.i2d fc))]) (st0 := []) (lenOf pd_ADIIIID_R_Z rfl) rfl rfl (Nat.le_of_eq rfl) (by rw [hml]; rfl) (by decide) (by decide) (W.Pure.ok P370.chv) at_231 rfl ?_
    intro v371 T371 h371 L371 q371 P371
    obtain ⟨rfl, rfl, rfl⟩ := q371
    show W.Go p.tables e below _ (T371.setTop (mkF m 234 #[.val (.int pr), .val (.int vl), .val (.int fc), .val (.int dn), .val (.int (4 : Int32)), .val (.int (1 : Int32)), .val (.ref t354), .val (.ref t355), .val (.int (1 : Int32)), .val (.ref x359), .val (.double (FP.i2d fc)), .second, .val (.ref x368)] [(.int (1 : Int32))]))
    refine W.g_ifN (pc2 := 237) P371.q at_234 rfl (by decide) ?_
    refine W.g_aload (pc1 := 239) P371.q at_237 rfl rfl rfl ?_
    refine W.g_iconst (pc1 := 240) (v := (1 : Int32)) P371.q at_239 (by decide) rfl ?_
    refine W.g_iload (pc1 := 242) P371.q at_240 rfl rfl ?_
    refine W.g_iloadN (pc1 := 243) P371.q at_242 rfl rfl ?_
    refine W.g_iloadN (pc1 := 244) P371.q at_243 rfl rfl ?_
    refine W.g_dload (pc1 := 246) P371.q at_244 rfl rfl ?_
    refine P371.callS (pc1 := 249) (wd hw (k := 31) rfl) (wd hw (k := 32) rfl) (wd hw (k := 2) rfl) (wd hw (k := 33) rfl) (by decide) (W.MetN.pay (W := 0) (c_chk10 l Z a0 hw x359 _ _ _ _ _ (FP.i2d fc) 4 vl dn (by decide) own_self h370 V370) P371 (wd hw (k := 33) rfl) (wd hw (k := 2) rfl) (by decide) (by decide)) (argsL := [(.ref x359), (.int (1 : Int32)), (.int (4 : Int32)), (.int vl), (.int dn), (.double (FP.i2d fc))]) (st0 := []) (lenOf pd_ADIIIID_R_Z rfl) rfl rfl (Nat.le_of_eq rfl) (by rw [hml]; rfl) (by decide) (by decide) (W.Pure.ok P371.chv) at_246 rfl ?_
    intro v372 T372 h372 L372 q372 P372
    obtain ⟨rfl, rfl, rfl⟩ := q372
    show W.Go p.tables e below _ (T372.setTop (mkF m 249 #[.val (.int pr), .val (.int vl), .val (.int fc), .val (.int dn), .val (.int (4 : Int32)), .val (.int (1 : Int32)), .val (.ref t354), .val (.ref t355), .val (.int (1 : Int32)), .val (.ref x359), .val (.double (FP.i2d fc)), .second, .val (.ref x368)] [(.int (1 : Int32))]))
    refine W.g_ifN (pc2 := 252) P372.q at_249 rfl (by decide) ?_
    refine W.g_aload (pc1 := 254) P372.q at_252 rfl rfl rfl ?_
    refine W.g_iconst (pc1 := 255) (v := (2 : Int32)) P372.q at_254 (by decide) rfl ?_
    refine W.g_iload (pc1 := 257) P372.q at_255 rfl rfl ?_
    refine W.g_iloadN (pc1 := 258) P372.q at_257 rfl rfl ?_
    refine W.g_iloadN (pc1 := 259) P372.q at_258 rfl rfl ?_
    refine W.g_dload (pc1 := 261) P372.q at_259 rfl rfl ?_
    refine P372.callS (pc1 := 264) (wd hw (k := 31) rfl) (wd hw (k := 32) rfl) (wd hw (k := 2) rfl) (wd hw (k := 33) rfl) (by decide) (W.MetN.pay (W := 0) (c_chk21 l Z a0 hw x359 _ _ _ _ _ (FP.i2d fc) 4 vl dn (by decide) ok2.1 ok2.2.1 ok2.2.2 (dcmpV_self ok2.2.2 .l) h370 V370) P372 (wd hw (k := 33) rfl) (wd hw (k := 2) rfl) (by decide) (by decide)) (argsL := [(.ref x359), (.int (2 : Int32)), (.int (4 : Int32)), (.int vl), (.int dn), (.double (FP.i2d fc))]) (st0 := []) (lenOf pd_ADIIIID_R_Z rfl) rfl rfl (Nat.le_of_eq rfl) (by rw [hml]; rfl) (by decide) (by decide) (W.Pure.ok P372.chv) at_261 rfl ?_
    intro v373 T373 h373 L373 q373 P373
    obtain ⟨rfl, rfl, rfl⟩ := q373
    show W.Go p.tables e below _ (T373.setTop (mkF m 264 #[.val (.int pr), .val (.int vl), .val (.int fc), .val (.int dn), .val (.int (4 : Int32)), .val (.int (1 : Int32)), .val (.ref t354), .val (.ref t355), .val (.int (1 : Int32)), .val (.ref x359), .val (.double (FP.i2d fc)), .second, .val (.ref x368)] [(.int (1 : Int32))]))
    refine W.g_ifN (pc2 := 267) P373.q at_264 rfl (by decide) ?_
    refine W.g_aload (pc1 := 269) P373.q at_267 rfl rfl rfl ?_
    refine W.g_iconst (pc1 := 270) (v := (3 : Int32)) P373.q at_269 (by decide) rfl ?_
    refine W.g_iload (pc1 := 272) P373.q at_270 rfl rfl ?_
    refine W.g_iloadN (pc1 := 273) P373.q at_272 rfl rfl ?_
    refine W.g_iloadN (pc1 := 274) P373.q at_273 rfl rfl ?_
    refine W.g_dload (pc1 := 276) P373.q at_274 rfl rfl ?_
    refine P373.callS (pc1 := 279) (wd hw (k := 31) rfl) (wd hw (k := 32) rfl) (wd hw (k := 2) rfl) (wd hw (k := 33) rfl) (by decide) (W.MetN.pay (W := 0) (c_chk30 l Z a0 hw x359 _ _ _ _ _ (FP.i2d fc) 4 vl dn (by decide) own_self h370 V370) P373 (wd hw (k := 33) rfl) (wd hw (k := 2) rfl) (by decide) (by decide)) (argsL := [(.ref x359), (.int (3 : Int32)), (.int (4 : Int32)), (.int vl), (.int dn), (.double (FP.i2d fc))]) (st0 := []) (lenOf pd_ADIIIID_R_Z rfl) rfl rfl (Nat.le_of_eq rfl) (by rw [hml]; rfl) (by decide) (by decide) (W.Pure.ok P373.chv) at_276 rfl ?_
    intro v374 T374 h374 L374 q374 P374
    obtain ⟨rfl, rfl, rfl⟩ := q374
    show W.Go p.tables e below _ (T374.setTop (mkF m 279 #[.val (.int pr), .val (.int vl), .val (.int fc), .val (.int dn), .val (.int (4 : Int32)), .val (.int (1 : Int32)), .val (.ref t354), .val (.ref t355), .val (.int (1 : Int32)), .val (.ref x359), .val (.double (FP.i2d fc)), .second, .val (.ref x368)] [(.int (1 : Int32))]))
    refine W.g_ifN (pc2 := 282) P374.q at_279 rfl (by decide) ?_
    refine W.g_iconst (pc1 := 283) (v := (1 : Int32)) P374.q at_282 (by decide) rfl ?_
    refine W.g_goto (pc1 := 287) P374.q at_283 (by decide) rfl ?_
    exact P374.retVN hlk hret (Or.inl rfl) at_287 (by decide) (by decide) ⟨rfl, P374.fr⟩
  · show W.Go p.tables e below _ (s₁.setTop (mkF m 4 #[.val (.int pr), .val (.int vl), .val (.int fc), .val (.int dn), .unset, .unset, .unset, .unset, .unset, .unset, .unset, .unset, .unset] [(.int (5 : Int32))]))
    refine W.g_istore (pc1 := 6) (ls2 := #[.val (.int pr), .val (.int vl), .val (.int fc), .val (.int dn), .val (.int (5 : Int32)), .unset, .unset, .unset, .unset, .unset, .unset, .unset, .unset]) P0.q at_4 rfl rfl ?_
    refine W.g_iload (pc1 := 8) P0.q at_6 rfl rfl ?_
    refine W.g_iconst (pc1 := 9) (v := (1 : Int32)) P0.q at_8 (by decide) rfl ?_
    refine W.g_iand (pc1 := 10) P0.q at_9 rfl ?_
    refine W.g_iload (pc1 := 12) P0.q at_10 rfl rfl ?_
    refine W.g_iconst (pc1 := 13) (v := (1 : Int32)) P0.q at_12 (by decide) rfl ?_
    refine W.g_ishr (pc1 := 14) P0.q at_13 rfl ?_
    refine W.g_iconst (pc1 := 15) (v := (1 : Int32)) P0.q at_14 (by decide) rfl ?_
    refine W.g_iand (pc1 := 16) P0.q at_15 rfl ?_
    refine W.g_iadd (pc1 := 17) P0.q at_16 rfl ?_
    refine W.g_iload (pc1 := 19) P0.q at_17 rfl rfl ?_
    refine W.g_iconst (pc1 := 20) (v := (2 : Int32)) P0.q at_19 (by decide) rfl ?_
    refine W.g_ishr (pc1 := 21) P0.q at_20 rfl ?_
    refine W.g_iconst (pc1 := 22) (v := (1 : Int32)) P0.q at_21 (by decide) rfl ?_
    refine W.g_iand (pc1 := 23) P0.q at_22 rfl ?_
    refine W.g_iadd (pc1 := 24) P0.q at_23 rfl ?_
    refine W.g_iload (pc1 := 26) P0.q at_24 rfl rfl ?_
    refine W.g_iconst (pc1 := 27) (v := (3 : Int32)) P0.q at_26 (by decide) rfl ?_
    refine W.g_ishr (pc1 := 28) P0.q at_27 rfl ?_
    refine W.g_iconst (pc1 := 29) (v := (1 : Int32)) P0.q at_28 (by decide) rfl ?_
    refine W.g_iand (pc1 := 30) P0.q at_29 rfl ?_
    refine W.g_iadd (pc1 := 31) P0.q at_30 rfl ?_
    rw [show (((((5 : Int32) &&& (1 : Int32)) + (((5 : Int32) >>> ((1 : Int32) &&& 31)) &&& (1 : Int32))) + (((5 : Int32) >>> ((2 : Int32) &&& 31)) &&& (1 : Int32))) + (((5 : Int32) >>> ((3 : Int32) &&& 31)) &&& (1 : Int32))) = (2 : Int32) from by decide]
    refine W.g_istore (pc1 := 33) (ls2 := #[.val (.int pr), .val (.int vl), .val (.int fc), .val (.int dn), .val (.int (5 : Int32)), .val (.int (2 : Int32)), .unset, .unset, .unset, .unset, .unset, .unset, .unset]) P0.q at_31 rfl rfl ?_
    refine W.g_iload (pc1 := 35) P0.q at_33 rfl rfl ?_
    refine P0.callS (pc1 := 38) (wd hw (k := 0) rfl) (wd hw (k := 1) rfl) (wd hw (k := 2) rfl) (wd hw (k := 3) rfl) (by decide) (W.MetN.pay (W := 0) (c_ni2 l Z a0 hw h0) P0 (wd hw (k := 3) rfl) (wd hw (k := 2) rfl) (by decide) (by decide)) (argsL := [(.int (2 : Int32))]) (st0 := []) (lenOf pd_I_R_AI rfl) rfl rfl (Nat.le_of_eq rfl) (by rw [hml]; rfl) (by decide) (by decide) (fun _ _ _ q => by obtain ⟨_, _, _, q2, q3, _⟩ := q; exact ⟨q2.up P0.sz all0, CHr.keep (W.Ext.toKeep q3 []) sf0 P0.chv⟩) at_35 rfl ?_
    intro v375 T375 h375 L375 q375 P375
    obtain ⟨t375, k375, rfl, f375, E375, g375, V375⟩ := q375
    show W.Go p.tables e below _ (T375.setTop (mkF m 38 #[.val (.int pr), .val (.int vl), .val (.int fc), .val (.int dn), .val (.int (5 : Int32)), .val (.int (2 : Int32)), .unset, .unset, .unset, .unset, .unset, .unset, .unset] [(.ref t375)]))
    refine W.g_astore (pc1 := 40) (ls2 := #[.val (.int pr), .val (.int vl), .val (.int fc), .val (.int dn), .val (.int (5 : Int32)), .val (.int (2 : Int32)), .val (.ref t375), .unset, .unset, .unset, .unset, .unset, .unset]) P375.q at_38 rfl rfl rfl ?_
    refine W.g_iload (pc1 := 42) P375.q at_40 rfl rfl ?_
    refine P375.callS (pc1 := 45) (wd hw (k := 5) rfl) (wd hw (k := 6) rfl) (wd hw (k := 2) rfl) (wd hw (k := 7) rfl) (by decide) (W.MetN.pay (W := 0) (c_nf2 l Z a0 hw h375) P375 (wd hw (k := 7) rfl) (wd hw (k := 2) rfl) (by decide) (by decide)) (argsL := [(.int (2 : Int32))]) (st0 := []) (lenOf pd_I_R_AF rfl) rfl rfl (Nat.le_of_eq rfl) (by rw [hml]; rfl) (by decide) (by decide) (fun _ _ _ q => by obtain ⟨_, _, _, q2, q3, _⟩ := q; exact ⟨q2.up P375.sz all0, CHr.keep (W.Ext.toKeep q3 []) sf0 P375.chv⟩) at_42 rfl ?_
    intro v376 T376 h376 L376 q376 P376
    obtain ⟨t376, k376, rfl, f376, E376, g376, V376⟩ := q376
    show W.Go p.tables e below _ (T376.setTop (mkF m 45 #[.val (.int pr), .val (.int vl), .val (.int fc), .val (.int dn), .val (.int (5 : Int32)), .val (.int (2 : Int32)), .val (.ref t375), .unset, .unset, .unset, .unset, .unset, .unset] [(.ref t376)]))
    have hdf : t375 ≠ t376 := Nat.ne_of_lt (Nat.lt_of_lt_of_le V375.lt g376)
    have Vd0 := V375.ext E376
    refine W.g_astore (pc1 := 47) (ls2 := #[.val (.int pr), .val (.int vl), .val (.int fc), .val (.int dn), .val (.int (5 : Int32)), .val (.int (2 : Int32)), .val (.ref t375), .val (.ref t376), .unset, .unset, .unset, .unset, .unset]) P376.q at_45 rfl rfl rfl ?_
    refine W.g_iconst (pc1 := 48) (v := (0 : Int32)) P376.q at_47 (by decide) rfl ?_
    refine W.g_istore (pc1 := 50) (ls2 := #[.val (.int pr), .val (.int vl), .val (.int fc), .val (.int dn), .val (.int (5 : Int32)), .val (.int (2 : Int32)), .val (.ref t375), .val (.ref t376), .val (.int (0 : Int32)), .unset, .unset, .unset, .unset]) P376.q at_48 rfl rfl ?_
    refine W.g_iload (pc1 := 52) P376.q at_50 rfl rfl ?_
    refine W.g_iconst (pc1 := 53) (v := (1 : Int32)) P376.q at_52 (by decide) rfl ?_
    refine W.g_iand (pc1 := 54) P376.q at_53 rfl ?_
    refine W.g_ifN (pc2 := 57) P376.q at_54 rfl (by decide) ?_
    refine W.g_aload (pc1 := 59) P376.q at_57 rfl rfl rfl ?_
    refine W.g_iload (pc1 := 61) P376.q at_59 rfl rfl ?_
    refine W.g_iconst (pc1 := 62) (v := (0 : Int32)) P376.q at_61 (by decide) rfl ?_
    refine P376.stI (pc1 := 63) (i := 0) Vd0 (by decide) (by decide) (Nat.le_of_ble_eq_true rfl) rfl (Or.inr (Nat.le_trans P0.sz g375)) (Safe.arv P376.al Vd0 (by decide)) at_62 rfl ?_
    intro T377 h377 P377 W377 V377
    have Vf377 := V376.other W377 (Ne.symm hdf)
    refine W.g_aload (pc1 := 65) P377.q at_63 rfl rfl rfl ?_
    refine W.g_iload (pc1 := 67) P377.q at_65 rfl rfl ?_
    refine W.g_iloadN (pc1 := 68) P377.q at_67 rfl rfl ?_
    refine W.g_iconst (pc1 := 69) (v := (0 : Int32)) P377.q at_68 (by decide) rfl ?_
    refine P377.callS (pc1 := 72) (wd hw (k := 34) rfl) (wd hw (k := 35) rfl) (wd hw (k := 2) rfl) (wd hw (k := 36) rfl) (by decide) (W.MetN.pay (W := 2) (c_val l Z a0 hw vl 0 h377) P377 (wd hw (k := 36) rfl) (wd hw (k := 2) rfl) (by decide) (by decide)) (argsL := [(.int vl), (.int (0 : Int32))]) (st0 := [(.int (0 : Int32)), (.ref t376)]) (lenOf pd_II_R_F rfl) rfl rfl (Nat.le_of_eq rfl) (by rw [hml]; rfl) (by decide) (by decide) (W.Pure.ok P377.chv) at_69 rfl ?_
    intro v378 T378 h378 L378 q378 P378
    obtain ⟨rfl, rfl, rfl⟩ := q378
    show W.Go p.tables e below _ (T378.setTop (mkF m 72 #[.val (.int pr), .val (.int vl), .val (.int fc), .val (.int dn), .val (.int (5 : Int32)), .val (.int (2 : Int32)), .val (.ref t375), .val (.ref t376), .val (.int (0 : Int32)), .unset, .unset, .unset, .unset] [(.float (FP.i2f (own_vb vl 0))), (.int (0 : Int32)), (.ref t376)]))
    refine P378.stF (pc1 := 73) (i := 0) Vf377 (by decide) (by decide) (Nat.le_of_ble_eq_true rfl) rfl (Or.inr (Nat.le_trans P375.sz g376)) (Safe.arv P378.al Vf377 (by decide)) at_72 rfl ?_
    intro T379 h379 P379 W379 V379
    have Vd379 := V377.other W379 hdf
    refine W.g_iinc (pc1 := 76) (ls2 := #[.val (.int pr), .val (.int vl), .val (.int fc), .val (.int dn), .val (.int (5 : Int32)), .val (.int (2 : Int32)), .val (.ref t375), .val (.ref t376), .val (.int ((0 : Int32) + Int32.ofInt 1)), .unset, .unset, .unset, .unset]) P379.q at_73 rfl rfl rfl ?_
    show W.Go p.tables e below _ (T379.setTop (mkF m 76 #[.val (.int pr), .val (.int vl), .val (.int fc), .val (.int dn), .val (.int (5 : Int32)), .val (.int (2 : Int32)), .val (.ref t375), .val (.ref t376), .val (.int (1 : Int32)), .unset, .unset, .unset, .unset] []))
    refine W.g_iload (pc1 := 78) P379.q at_76 rfl rfl ?_
    refine W.g_iconst (pc1 := 79) (v := (2 : Int32)) P379.q at_78 (by decide) rfl ?_
    refine W.g_iand (pc1 := 80) P379.q at_79 rfl ?_
    refine W.g_ifY (pc1 := 102) P379.q at_80 (by decide) rfl (by decide) ?_
    refine W.g_iload (pc1 := 104) P379.q at_102 rfl rfl ?_
    refine W.g_iconst (pc1 := 105) (v := (4 : Int32)) P379.q at_104 (by decide) rfl ?_
    refine W.g_iand (pc1 := 106) P379.q at_105 rfl ?_
    refine W.g_ifN (pc2 := 109) P379.q at_106 rfl (by decide) ?_
    refine W.g_aload (pc1 := 111) P379.q at_109 rfl rfl rfl ?_
    refine W.g_iload (pc1 := 113) P379.q at_111 rfl rfl ?_
    refine W.g_iconst (pc1 := 114) (v := (2 : Int32)) P379.q at_113 (by decide) rfl ?_
    refine P379.stI (pc1 := 115) (i := 1) Vd379 (by decide) (by decide) (Nat.le_of_ble_eq_true rfl) rfl (Or.inr (Nat.le_trans P0.sz g375)) (Safe.arv P379.al Vd379 (by decide)) at_114 rfl ?_
    intro T380 h380 P380 W380 V380
    have Vf380 := V379.other W380 (Ne.symm hdf)
    refine W.g_aload (pc1 := 117) P380.q at_115 rfl rfl rfl ?_
    refine W.g_iload (pc1 := 119) P380.q at_117 rfl rfl ?_
    refine W.g_iloadN (pc1 := 120) P380.q at_119 rfl rfl ?_
    refine W.g_iconst (pc1 := 121) (v := (2 : Int32)) P380.q at_120 (by decide) rfl ?_
    refine P380.callS (pc1 := 124) (wd hw (k := 34) rfl) (wd hw (k := 35) rfl) (wd hw (k := 2) rfl) (wd hw (k := 36) rfl) (by decide) (W.MetN.pay (W := 2) (c_val l Z a0 hw vl 2 h380) P380 (wd hw (k := 36) rfl) (wd hw (k := 2) rfl) (by decide) (by decide)) (argsL := [(.int vl), (.int (2 : Int32))]) (st0 := [(.int (1 : Int32)), (.ref t376)]) (lenOf pd_II_R_F rfl) rfl rfl (Nat.le_of_eq rfl) (by rw [hml]; rfl) (by decide) (by decide) (W.Pure.ok P380.chv) at_121 rfl ?_
    intro v381 T381 h381 L381 q381 P381
    obtain ⟨rfl, rfl, rfl⟩ := q381
    show W.Go p.tables e below _ (T381.setTop (mkF m 124 #[.val (.int pr), .val (.int vl), .val (.int fc), .val (.int dn), .val (.int (5 : Int32)), .val (.int (2 : Int32)), .val (.ref t375), .val (.ref t376), .val (.int (1 : Int32)), .unset, .unset, .unset, .unset] [(.float (FP.i2f (own_vb vl 2))), (.int (1 : Int32)), (.ref t376)]))
    refine P381.stF (pc1 := 125) (i := 1) Vf380 (by decide) (by decide) (Nat.le_of_ble_eq_true rfl) rfl (Or.inr (Nat.le_trans P375.sz g376)) (Safe.arv P381.al Vf380 (by decide)) at_124 rfl ?_
    intro T382 h382 P382 W382 V382
    have Vd382 := V380.other W382 hdf
    refine W.g_iinc (pc1 := 128) (ls2 := #[.val (.int pr), .val (.int vl), .val (.int fc), .val (.int dn), .val (.int (5 : Int32)), .val (.int (2 : Int32)), .val (.ref t375), .val (.ref t376), .val (.int ((1 : Int32) + Int32.ofInt 1)), .unset, .unset, .unset, .unset]) P382.q at_125 rfl rfl rfl ?_
    show W.Go p.tables e below _ (T382.setTop (mkF m 128 #[.val (.int pr), .val (.int vl), .val (.int fc), .val (.int dn), .val (.int (5 : Int32)), .val (.int (2 : Int32)), .val (.ref t375), .val (.ref t376), .val (.int (2 : Int32)), .unset, .unset, .unset, .unset] []))
    refine W.g_iload (pc1 := 130) P382.q at_128 rfl rfl ?_
    refine W.g_bipush (pc1 := 132) (v := (8 : Int32)) P382.q at_130 (by decide) rfl ?_
    refine W.g_iand (pc1 := 133) P382.q at_132 rfl ?_
    refine W.g_ifY (pc1 := 155) P382.q at_133 (by decide) rfl (by decide) ?_
    refine W.g_iconst (pc1 := 156) (v := (4 : Int32)) P382.q at_155 (by decide) rfl ?_
    refine P382.newP (pc1 := 158) (cap := 4) (wd hw (k := 9) rfl) (by decide) (by decide) (by decide) (by decide) (by decide) at_156 rfl ?_
    intro T383 h383 x383 k383 g383 P383 E383 V383
    have Vd383 := Vd382.ext E383
    have Vf383 := V382.ext E383
    have hdz : t375 ≠ x383 := Nat.ne_of_lt (by rw [g383]; exact Vd382.lt)
    have hfz : t376 ≠ x383 := Nat.ne_of_lt (by rw [g383]; exact V382.lt)
    refine W.g_astore (pc1 := 160) (ls2 := #[.val (.int pr), .val (.int vl), .val (.int fc), .val (.int dn), .val (.int (5 : Int32)), .val (.int (2 : Int32)), .val (.ref t375), .val (.ref t376), .val (.int (2 : Int32)), .val (.ref x383), .unset, .unset, .unset]) P383.q at_158 rfl rfl rfl ?_
    refine W.g_aload (pc1 := 162) P383.q at_160 rfl rfl rfl ?_
    refine W.g_iconst (pc1 := 163) (v := (0 : Int32)) P383.q at_162 (by decide) rfl ?_
    refine W.g_iloadN (pc1 := 164) P383.q at_163 rfl rfl ?_
    refine W.g_iconst (pc1 := 165) (v := (0 : Int32)) P383.q at_164 (by decide) rfl ?_
    refine P383.callS (pc1 := 168) (wd hw (k := 10) rfl) (wd hw (k := 11) rfl) (wd hw (k := 2) rfl) (wd hw (k := 12) rfl) (by decide) (W.MetN.pay (W := 2) (c_dv l Z a0 hw dn 0 h383) P383 (wd hw (k := 12) rfl) (wd hw (k := 2) rfl) (by decide) (by decide)) (argsL := [(.int dn), (.int (0 : Int32))]) (st0 := [(.int (0 : Int32)), (.ref x383)]) (lenOf pd_II_R_D rfl) rfl rfl (Nat.le_of_eq rfl) (by rw [hml]; rfl) (by decide) (by decide) (W.Pure.ok P383.chv) at_165 rfl ?_
    intro v384 T384 h384 L384 q384 P384
    obtain ⟨rfl, rfl, rfl⟩ := q384
    show W.Go p.tables e below _ (T384.setTop (mkF m 168 #[.val (.int pr), .val (.int vl), .val (.int fc), .val (.int dn), .val (.int (5 : Int32)), .val (.int (2 : Int32)), .val (.ref t375), .val (.ref t376), .val (.int (2 : Int32)), .val (.ref x383), .unset, .unset, .unset] [(.double (FP.i2d (own_db dn 0))), (.int (0 : Int32)), (.ref x383)]))
    refine P384.stD (pc1 := 169) (i := 0) V383 (by decide) (by decide) (Nat.le_of_ble_eq_true rfl) rfl (Or.inr (by rw [g383]; exact P382.sz)) (Safe.arv P384.al V383 (by decide)) at_168 rfl ?_
    intro T385 h385 P385 W385 V385
    have Vd385 := Vd383.other W385 hdz
    have Vf385 := Vf383.other W385 hfz
    refine W.g_aload (pc1 := 171) P385.q at_169 rfl rfl rfl ?_
    refine W.g_iconst (pc1 := 172) (v := (1 : Int32)) P385.q at_171 (by decide) rfl ?_
    refine W.g_iloadN (pc1 := 173) P385.q at_172 rfl rfl ?_
    refine W.g_iconst (pc1 := 174) (v := (1 : Int32)) P385.q at_173 (by decide) rfl ?_
    refine P385.callS (pc1 := 177) (wd hw (k := 10) rfl) (wd hw (k := 11) rfl) (wd hw (k := 2) rfl) (wd hw (k := 12) rfl) (by decide) (W.MetN.pay (W := 2) (c_dv l Z a0 hw dn 1 h385) P385 (wd hw (k := 12) rfl) (wd hw (k := 2) rfl) (by decide) (by decide)) (argsL := [(.int dn), (.int (1 : Int32))]) (st0 := [(.int (1 : Int32)), (.ref x383)]) (lenOf pd_II_R_D rfl) rfl rfl (Nat.le_of_eq rfl) (by rw [hml]; rfl) (by decide) (by decide) (W.Pure.ok P385.chv) at_174 rfl ?_
    intro v386 T386 h386 L386 q386 P386
    obtain ⟨rfl, rfl, rfl⟩ := q386
    show W.Go p.tables e below _ (T386.setTop (mkF m 177 #[.val (.int pr), .val (.int vl), .val (.int fc), .val (.int dn), .val (.int (5 : Int32)), .val (.int (2 : Int32)), .val (.ref t375), .val (.ref t376), .val (.int (2 : Int32)), .val (.ref x383), .unset, .unset, .unset] [(.double (FP.i2d (own_db dn 1))), (.int (1 : Int32)), (.ref x383)]))
    refine P386.stD (pc1 := 178) (i := 1) V385 (by decide) (by decide) (Nat.le_of_ble_eq_true rfl) rfl (Or.inr (by rw [g383]; exact P382.sz)) (Safe.arv P386.al V385 (by decide)) at_177 rfl ?_
    intro T387 h387 P387 W387 V387
    have Vd387 := Vd385.other W387 hdz
    have Vf387 := Vf385.other W387 hfz
    refine W.g_aload (pc1 := 180) P387.q at_178 rfl rfl rfl ?_
    refine W.g_iconst (pc1 := 181) (v := (2 : Int32)) P387.q at_180 (by decide) rfl ?_
    refine W.g_iloadN (pc1 := 182) P387.q at_181 rfl rfl ?_
    refine W.g_iconst (pc1 := 183) (v := (2 : Int32)) P387.q at_182 (by decide) rfl ?_
    refine P387.callS (pc1 := 186) (wd hw (k := 10) rfl) (wd hw (k := 11) rfl) (wd hw (k := 2) rfl) (wd hw (k := 12) rfl) (by decide) (W.MetN.pay (W := 2) (c_dv l Z a0 hw dn 2 h387) P387 (wd hw (k := 12) rfl) (wd hw (k := 2) rfl) (by decide) (by decide)) (argsL := [(.int dn), (.int (2 : Int32))]) (st0 := [(.int (2 : Int32)), (.ref x383)]) (lenOf pd_II_R_D rfl) rfl rfl (Nat.le_of_eq rfl) (by rw [hml]; rfl) (by decide) (by decide) (W.Pure.ok P387.chv) at_183 rfl ?_
    intro v388 T388 h388 L388 q388 P388
    obtain ⟨rfl, rfl, rfl⟩ := q388
    show W.Go p.tables e below _ (T388.setTop (mkF m 186 #[.val (.int pr), .val (.int vl), .val (.int fc), .val (.int dn), .val (.int (5 : Int32)), .val (.int (2 : Int32)), .val (.ref t375), .val (.ref t376), .val (.int (2 : Int32)), .val (.ref x383), .unset, .unset, .unset] [(.double (FP.i2d (own_db dn 2))), (.int (2 : Int32)), (.ref x383)]))
    refine P388.stD (pc1 := 187) (i := 2) V387 (by decide) (by decide) (Nat.le_of_ble_eq_true rfl) rfl (Or.inr (by rw [g383]; exact P382.sz)) (Safe.arv P388.al V387 (by decide)) at_186 rfl ?_
    intro T389 h389 P389 W389 V389
    have Vd389 := Vd387.other W389 hdz
    have Vf389 := Vf387.other W389 hfz
    refine W.g_aload (pc1 := 189) P389.q at_187 rfl rfl rfl ?_
    refine W.g_iconst (pc1 := 190) (v := (3 : Int32)) P389.q at_189 (by decide) rfl ?_
    refine W.g_iloadN (pc1 := 191) P389.q at_190 rfl rfl ?_
    refine W.g_iconst (pc1 := 192) (v := (3 : Int32)) P389.q at_191 (by decide) rfl ?_
    refine P389.callS (pc1 := 195) (wd hw (k := 10) rfl) (wd hw (k := 11) rfl) (wd hw (k := 2) rfl) (wd hw (k := 12) rfl) (by decide) (W.MetN.pay (W := 2) (c_dv l Z a0 hw dn 3 h389) P389 (wd hw (k := 12) rfl) (wd hw (k := 2) rfl) (by decide) (by decide)) (argsL := [(.int dn), (.int (3 : Int32))]) (st0 := [(.int (3 : Int32)), (.ref x383)]) (lenOf pd_II_R_D rfl) rfl rfl (Nat.le_of_eq rfl) (by rw [hml]; rfl) (by decide) (by decide) (W.Pure.ok P389.chv) at_192 rfl ?_
    intro v390 T390 h390 L390 q390 P390
    obtain ⟨rfl, rfl, rfl⟩ := q390
    show W.Go p.tables e below _ (T390.setTop (mkF m 195 #[.val (.int pr), .val (.int vl), .val (.int fc), .val (.int dn), .val (.int (5 : Int32)), .val (.int (2 : Int32)), .val (.ref t375), .val (.ref t376), .val (.int (2 : Int32)), .val (.ref x383), .unset, .unset, .unset] [(.double (FP.i2d (own_db dn 3))), (.int (3 : Int32)), (.ref x383)]))
    refine P390.stD (pc1 := 196) (i := 3) V389 (by decide) (by decide) (Nat.le_of_ble_eq_true rfl) rfl (Or.inr (by rw [g383]; exact P382.sz)) (Safe.arv P390.al V389 (by decide)) at_195 rfl ?_
    intro T391 h391 P391 W391 V391
    have Vd391 := Vd389.other W391 hdz
    have Vf391 := Vf389.other W391 hfz
    refine W.g_iloadN (pc1 := 197) P391.q at_196 rfl rfl ?_
    refine W.g_i2d (pc1 := 198) P391.q at_197 rfl ?_
    refine W.g_dstore (pc1 := 200) (ls2 := #[.val (.int pr), .val (.int vl), .val (.int fc), .val (.int dn), .val (.int (5 : Int32)), .val (.int (2 : Int32)), .val (.ref t375), .val (.ref t376), .val (.int (2 : Int32)), .val (.ref x383), .val (.double (FP.i2d fc)), .second, .unset]) P391.q at_198 rfl rfl ?_
    refine P391.newO (pc1 := 203) (wd hw (k := 13) rfl) (wd hw (k := 14) rfl) (wd hw (k := 15) rfl) (by decide) (by decide) at_200 rfl ?_
    intro T392 h392 x392 g392 P392 E392 A392 D392 U392
    refine W.g_dup (pc1 := 204) P392.q at_203 rfl rfl ?_
    refine W.g_aload (pc1 := 206) P392.q at_204 rfl rfl rfl ?_
    refine W.g_aload (pc1 := 208) P392.q at_206 rfl rfl rfl ?_
    have Ndimensions : Fld Z h392 x392 "com/example/intent_search/intentsearch/rank/CategoryVector" "dimensions" "[I" .null := D392 (Or.inr (wd hw (k := 23) rfl)) (ty := (.array .int)) (by decide)
    have Nvalues : Fld Z h392 x392 "com/example/intent_search/intentsearch/rank/CategoryVector" "values" "[F" .null := D392 (Or.inr (wd hw (k := 25) rfl)) (ty := (.array .float)) (by decide)
    refine P392.callN (pc1 := 211) rfl (wd hw (k := 16) rfl) (wd hw (k := 17) rfl) (wd hw (k := 18) rfl) (by decide) (W.MetN.pay (W := 1) (c_cv l Z a0 hw x392 t375 t376 h392 A392 _ Ndimensions _ Nvalues) P392 (wd hw (k := 18) rfl) (wd hw (k := 15) rfl) (by decide) (by decide)) (argsL := [(.ref t375), (.ref t376)]) (st0 := [(.ref x392)]) (lenOf pd_AIAF_R_V rfl) rfl rfl (Nat.le_of_eq rfl) (by rw [hml]; rfl) (by decide) (by decide) (fun _ _ _ q => ⟨q.2.1.up P392.sz (allS (Or.inr (by rw [g392]; exact P391.sz)) all0), CHr.keep q.2.2.1 (sfS (Safe.exa P392.al A392 (by decide) (by decide)) sf0) P392.chv⟩) at_208 rfl ?_
    intro v393 T393 h393 L393 q393 P393
    obtain ⟨rfl, f393, K393, A393, Fd393, Fv393⟩ := q393
    show W.Go p.tables e below _ (T393.setTop (mkF m 211 #[.val (.int pr), .val (.int vl), .val (.int fc), .val (.int dn), .val (.int (5 : Int32)), .val (.int (2 : Int32)), .val (.ref t375), .val (.ref t376), .val (.int (2 : Int32)), .val (.ref x383), .val (.double (FP.i2d fc)), .second, .unset] [(.ref x392)]))
    have Vdq := (Vd391.ext E392).keep K393 (ninS (Ne.symm (Exa.neArv A392 (Vd391.ext E392) (wd hw (k := 14) rfl))) nin0)
    have Vfq := (Vf391.ext E392).keep K393 (ninS (Ne.symm (Exa.neArv A392 (Vf391.ext E392) (wd hw (k := 14) rfl))) nin0)
    have Vzq := (V391.ext E392).keep K393 (ninS (Ne.symm (Exa.neArv A392 (V391.ext E392) (wd hw (k := 14) rfl))) nin0)
    have hxz : x392 ≠ x383 := Exa.neArv A393 Vzq (wd hw (k := 14) rfl)
    refine W.g_astore (pc1 := 213) (ls2 := #[.val (.int pr), .val (.int vl), .val (.int fc), .val (.int dn), .val (.int (5 : Int32)), .val (.int (2 : Int32)), .val (.ref t375), .val (.ref t376), .val (.int (2 : Int32)), .val (.ref x383), .val (.double (FP.i2d fc)), .second, .val (.ref x392)]) P393.q at_211 rfl rfl rfl ?_
    refine W.g_aload (pc1 := 215) P393.q at_213 rfl rfl rfl ?_
    refine W.g_aload (pc1 := 217) P393.q at_215 rfl rfl rfl ?_
    refine W.g_dload (pc1 := 219) P393.q at_217 rfl rfl ?_
    have ok0 := own_one (f := fc) (own_dbb dn 0) (own_vbb vl 0)
    have ok1 := own_one (f := fc) (own_dbb dn 1) (own_vbb vl 1)
    have ok2 := own_one (f := fc) (own_dbb dn 2) (own_vbb vl 2)
    have ok3 := own_one (f := fc) (own_dbb dn 3) (own_vbb vl 3)
    refine P393.callV (pc1 := 222) A393 (wd hw (k := 26) rfl) (wd hw (k := 27) rfl) (wd hw (k := 29) rfl) (wd hw (k := 28) rfl) (notFace_of_selects (args := #[]) (mvT P393.hz (wd hw (k := 29) rfl))) (by decide) (W.MetN.pay (W := 0) (c_add5 l Z a0 hw x392 t375 t376 x383 _ _ _ (FP.i2d (own_db dn 0)) (FP.i2d (own_db dn 1)) (FP.i2d (own_db dn 2)) (FP.i2d (own_db dn 3)) (FP.i2d fc) (FP.i2f (own_vb vl 0)) ok0.1 ok0.2.1 ok0.2.2 (FP.i2f (own_vb vl 2)) ok2.1 ok2.2.1 ok2.2.2 h393 A393 Fd393 Fv393 Vdq Vfq Vzq hdz hfz hxz) P393 (wd hw (k := 30) rfl) (wd hw (k := 15) rfl) (by decide) (by decide)) (argsL := [(.ref x383), (.double (FP.i2d fc))]) (st0 := []) (lenOf pd_ADD_R_V rfl) rfl rfl (Nat.le_of_eq rfl) (by rw [hml]; rfl) (by decide) (by decide) (fun _ _ _ q => ⟨q.2.1.up P393.sz (allS (Or.inr (by rw [g383]; exact P382.sz)) all0), CHr.keep q.2.2.1 (sfS (Safe.arv P393.al Vzq (by decide)) sf0) P393.chv⟩) at_219 rfl ?_
    intro v394 T394 h394 L394 q394 P394
    obtain ⟨rfl, f394, K394, V394⟩ := q394
    show W.Go p.tables e below _ (T394.setTop (mkF m 222 #[.val (.int pr), .val (.int vl), .val (.int fc), .val (.int dn), .val (.int (5 : Int32)), .val (.int (2 : Int32)), .val (.ref t375), .val (.ref t376), .val (.int (2 : Int32)), .val (.ref x383), .val (.double (FP.i2d fc)), .second, .val (.ref x392)] []))
    refine W.g_aload (pc1 := 224) P394.q at_222 rfl rfl rfl ?_
    refine W.g_iconst (pc1 := 225) (v := (0 : Int32)) P394.q at_224 (by decide) rfl ?_
    refine W.g_iload (pc1 := 227) P394.q at_225 rfl rfl ?_
    refine W.g_iloadN (pc1 := 228) P394.q at_227 rfl rfl ?_
    refine W.g_iloadN (pc1 := 229) P394.q at_228 rfl rfl ?_
    refine W.g_dload (pc1 := 231) P394.q at_229 rfl rfl ?_
    refine P394.callS (pc1 := 234) (wd hw (k := 31) rfl) (wd hw (k := 32) rfl) (wd hw (k := 2) rfl) (wd hw (k := 33) rfl) (by decide) (W.MetN.pay (W := 0) (c_chk01 l Z a0 hw x383 _ _ _ _ _ (FP.i2d fc) 5 vl dn (by decide) ok0.1 ok0.2.1 ok0.2.2 (dcmpV_self ok0.2.2 .l) h394 V394) P394 (wd hw (k := 33) rfl) (wd hw (k := 2) rfl) (by decide) (by decide)) (argsL := [(.ref x383), (.int (0 : Int32)), (.int (5 : Int32)), (.int vl), (.int dn), (.double (FP.i2d fc))]) (st0 := []) (lenOf pd_ADIIIID_R_Z rfl) rfl rfl (Nat.le_of_eq rfl) (by rw [hml]; rfl) (by decide) (by decide) (W.Pure.ok P394.chv) at_231 rfl ?_
    intro v395 T395 h395 L395 q395 P395
    obtain ⟨rfl, rfl, rfl⟩ := q395
    show W.Go p.tables e below _ (T395.setTop (mkF m 234 #[.val (.int pr), .val (.int vl), .val (.int fc), .val (.int dn), .val (.int (5 : Int32)), .val (.int (2 : Int32)), .val (.ref t375), .val (.ref t376), .val (.int (2 : Int32)), .val (.ref x383), .val (.double (FP.i2d fc)), .second, .val (.ref x392)] [(.int (1 : Int32))]))
    refine W.g_ifN (pc2 := 237) P395.q at_234 rfl (by decide) ?_
    refine W.g_aload (pc1 := 239) P395.q at_237 rfl rfl rfl ?_
    refine W.g_iconst (pc1 := 240) (v := (1 : Int32)) P395.q at_239 (by decide) rfl ?_
    refine W.g_iload (pc1 := 242) P395.q at_240 rfl rfl ?_
    refine W.g_iloadN (pc1 := 243) P395.q at_242 rfl rfl ?_
    refine W.g_iloadN (pc1 := 244) P395.q at_243 rfl rfl ?_
    refine W.g_dload (pc1 := 246) P395.q at_244 rfl rfl ?_
    refine P395.callS (pc1 := 249) (wd hw (k := 31) rfl) (wd hw (k := 32) rfl) (wd hw (k := 2) rfl) (wd hw (k := 33) rfl) (by decide) (W.MetN.pay (W := 0) (c_chk10 l Z a0 hw x383 _ _ _ _ _ (FP.i2d fc) 5 vl dn (by decide) own_self h394 V394) P395 (wd hw (k := 33) rfl) (wd hw (k := 2) rfl) (by decide) (by decide)) (argsL := [(.ref x383), (.int (1 : Int32)), (.int (5 : Int32)), (.int vl), (.int dn), (.double (FP.i2d fc))]) (st0 := []) (lenOf pd_ADIIIID_R_Z rfl) rfl rfl (Nat.le_of_eq rfl) (by rw [hml]; rfl) (by decide) (by decide) (W.Pure.ok P395.chv) at_246 rfl ?_
    intro v396 T396 h396 L396 q396 P396
    obtain ⟨rfl, rfl, rfl⟩ := q396
    show W.Go p.tables e below _ (T396.setTop (mkF m 249 #[.val (.int pr), .val (.int vl), .val (.int fc), .val (.int dn), .val (.int (5 : Int32)), .val (.int (2 : Int32)), .val (.ref t375), .val (.ref t376), .val (.int (2 : Int32)), .val (.ref x383), .val (.double (FP.i2d fc)), .second, .val (.ref x392)] [(.int (1 : Int32))]))
    refine W.g_ifN (pc2 := 252) P396.q at_249 rfl (by decide) ?_
    refine W.g_aload (pc1 := 254) P396.q at_252 rfl rfl rfl ?_
    refine W.g_iconst (pc1 := 255) (v := (2 : Int32)) P396.q at_254 (by decide) rfl ?_
    refine W.g_iload (pc1 := 257) P396.q at_255 rfl rfl ?_
    refine W.g_iloadN (pc1 := 258) P396.q at_257 rfl rfl ?_
    refine W.g_iloadN (pc1 := 259) P396.q at_258 rfl rfl ?_
    refine W.g_dload (pc1 := 261) P396.q at_259 rfl rfl ?_
    refine P396.callS (pc1 := 264) (wd hw (k := 31) rfl) (wd hw (k := 32) rfl) (wd hw (k := 2) rfl) (wd hw (k := 33) rfl) (by decide) (W.MetN.pay (W := 0) (c_chk21 l Z a0 hw x383 _ _ _ _ _ (FP.i2d fc) 5 vl dn (by decide) ok2.1 ok2.2.1 ok2.2.2 (dcmpV_self ok2.2.2 .l) h394 V394) P396 (wd hw (k := 33) rfl) (wd hw (k := 2) rfl) (by decide) (by decide)) (argsL := [(.ref x383), (.int (2 : Int32)), (.int (5 : Int32)), (.int vl), (.int dn), (.double (FP.i2d fc))]) (st0 := []) (lenOf pd_ADIIIID_R_Z rfl) rfl rfl (Nat.le_of_eq rfl) (by rw [hml]; rfl) (by decide) (by decide) (W.Pure.ok P396.chv) at_261 rfl ?_
    intro v397 T397 h397 L397 q397 P397
    obtain ⟨rfl, rfl, rfl⟩ := q397
    show W.Go p.tables e below _ (T397.setTop (mkF m 264 #[.val (.int pr), .val (.int vl), .val (.int fc), .val (.int dn), .val (.int (5 : Int32)), .val (.int (2 : Int32)), .val (.ref t375), .val (.ref t376), .val (.int (2 : Int32)), .val (.ref x383), .val (.double (FP.i2d fc)), .second, .val (.ref x392)] [(.int (1 : Int32))]))
    refine W.g_ifN (pc2 := 267) P397.q at_264 rfl (by decide) ?_
    refine W.g_aload (pc1 := 269) P397.q at_267 rfl rfl rfl ?_
    refine W.g_iconst (pc1 := 270) (v := (3 : Int32)) P397.q at_269 (by decide) rfl ?_
    refine W.g_iload (pc1 := 272) P397.q at_270 rfl rfl ?_
    refine W.g_iloadN (pc1 := 273) P397.q at_272 rfl rfl ?_
    refine W.g_iloadN (pc1 := 274) P397.q at_273 rfl rfl ?_
    refine W.g_dload (pc1 := 276) P397.q at_274 rfl rfl ?_
    refine P397.callS (pc1 := 279) (wd hw (k := 31) rfl) (wd hw (k := 32) rfl) (wd hw (k := 2) rfl) (wd hw (k := 33) rfl) (by decide) (W.MetN.pay (W := 0) (c_chk30 l Z a0 hw x383 _ _ _ _ _ (FP.i2d fc) 5 vl dn (by decide) own_self h394 V394) P397 (wd hw (k := 33) rfl) (wd hw (k := 2) rfl) (by decide) (by decide)) (argsL := [(.ref x383), (.int (3 : Int32)), (.int (5 : Int32)), (.int vl), (.int dn), (.double (FP.i2d fc))]) (st0 := []) (lenOf pd_ADIIIID_R_Z rfl) rfl rfl (Nat.le_of_eq rfl) (by rw [hml]; rfl) (by decide) (by decide) (W.Pure.ok P397.chv) at_276 rfl ?_
    intro v398 T398 h398 L398 q398 P398
    obtain ⟨rfl, rfl, rfl⟩ := q398
    show W.Go p.tables e below _ (T398.setTop (mkF m 279 #[.val (.int pr), .val (.int vl), .val (.int fc), .val (.int dn), .val (.int (5 : Int32)), .val (.int (2 : Int32)), .val (.ref t375), .val (.ref t376), .val (.int (2 : Int32)), .val (.ref x383), .val (.double (FP.i2d fc)), .second, .val (.ref x392)] [(.int (1 : Int32))]))
    refine W.g_ifN (pc2 := 282) P398.q at_279 rfl (by decide) ?_
    refine W.g_iconst (pc1 := 283) (v := (1 : Int32)) P398.q at_282 (by decide) rfl ?_
    refine W.g_goto (pc1 := 287) P398.q at_283 (by decide) rfl ?_
    exact P398.retVN hlk hret (Or.inl rfl) at_287 (by decide) (by decide) ⟨rfl, P398.fr⟩
  · show W.Go p.tables e below _ (s₁.setTop (mkF m 4 #[.val (.int pr), .val (.int vl), .val (.int fc), .val (.int dn), .unset, .unset, .unset, .unset, .unset, .unset, .unset, .unset, .unset] [(.int (6 : Int32))]))
    refine W.g_istore (pc1 := 6) (ls2 := #[.val (.int pr), .val (.int vl), .val (.int fc), .val (.int dn), .val (.int (6 : Int32)), .unset, .unset, .unset, .unset, .unset, .unset, .unset, .unset]) P0.q at_4 rfl rfl ?_
    refine W.g_iload (pc1 := 8) P0.q at_6 rfl rfl ?_
    refine W.g_iconst (pc1 := 9) (v := (1 : Int32)) P0.q at_8 (by decide) rfl ?_
    refine W.g_iand (pc1 := 10) P0.q at_9 rfl ?_
    refine W.g_iload (pc1 := 12) P0.q at_10 rfl rfl ?_
    refine W.g_iconst (pc1 := 13) (v := (1 : Int32)) P0.q at_12 (by decide) rfl ?_
    refine W.g_ishr (pc1 := 14) P0.q at_13 rfl ?_
    refine W.g_iconst (pc1 := 15) (v := (1 : Int32)) P0.q at_14 (by decide) rfl ?_
    refine W.g_iand (pc1 := 16) P0.q at_15 rfl ?_
    refine W.g_iadd (pc1 := 17) P0.q at_16 rfl ?_
    refine W.g_iload (pc1 := 19) P0.q at_17 rfl rfl ?_
    refine W.g_iconst (pc1 := 20) (v := (2 : Int32)) P0.q at_19 (by decide) rfl ?_
    refine W.g_ishr (pc1 := 21) P0.q at_20 rfl ?_
    refine W.g_iconst (pc1 := 22) (v := (1 : Int32)) P0.q at_21 (by decide) rfl ?_
    refine W.g_iand (pc1 := 23) P0.q at_22 rfl ?_
    refine W.g_iadd (pc1 := 24) P0.q at_23 rfl ?_
    refine W.g_iload (pc1 := 26) P0.q at_24 rfl rfl ?_
    refine W.g_iconst (pc1 := 27) (v := (3 : Int32)) P0.q at_26 (by decide) rfl ?_
    refine W.g_ishr (pc1 := 28) P0.q at_27 rfl ?_
    refine W.g_iconst (pc1 := 29) (v := (1 : Int32)) P0.q at_28 (by decide) rfl ?_
    refine W.g_iand (pc1 := 30) P0.q at_29 rfl ?_
    refine W.g_iadd (pc1 := 31) P0.q at_30 rfl ?_
    rw [show (((((6 : Int32) &&& (1 : Int32)) + (((6 : Int32) >>> ((1 : Int32) &&& 31)) &&& (1 : Int32))) + (((6 : Int32) >>> ((2 : Int32) &&& 31)) &&& (1 : Int32))) + (((6 : Int32) >>> ((3 : Int32) &&& 31)) &&& (1 : Int32))) = (2 : Int32) from by decide]
    refine W.g_istore (pc1 := 33) (ls2 := #[.val (.int pr), .val (.int vl), .val (.int fc), .val (.int dn), .val (.int (6 : Int32)), .val (.int (2 : Int32)), .unset, .unset, .unset, .unset, .unset, .unset, .unset]) P0.q at_31 rfl rfl ?_
    refine W.g_iload (pc1 := 35) P0.q at_33 rfl rfl ?_
    refine P0.callS (pc1 := 38) (wd hw (k := 0) rfl) (wd hw (k := 1) rfl) (wd hw (k := 2) rfl) (wd hw (k := 3) rfl) (by decide) (W.MetN.pay (W := 0) (c_ni2 l Z a0 hw h0) P0 (wd hw (k := 3) rfl) (wd hw (k := 2) rfl) (by decide) (by decide)) (argsL := [(.int (2 : Int32))]) (st0 := []) (lenOf pd_I_R_AI rfl) rfl rfl (Nat.le_of_eq rfl) (by rw [hml]; rfl) (by decide) (by decide) (fun _ _ _ q => by obtain ⟨_, _, _, q2, q3, _⟩ := q; exact ⟨q2.up P0.sz all0, CHr.keep (W.Ext.toKeep q3 []) sf0 P0.chv⟩) at_35 rfl ?_
    intro v399 T399 h399 L399 q399 P399
    obtain ⟨t399, k399, rfl, f399, E399, g399, V399⟩ := q399
    show W.Go p.tables e below _ (T399.setTop (mkF m 38 #[.val (.int pr), .val (.int vl), .val (.int fc), .val (.int dn), .val (.int (6 : Int32)), .val (.int (2 : Int32)), .unset, .unset, .unset, .unset, .unset, .unset, .unset] [(.ref t399)]))
    refine W.g_astore (pc1 := 40) (ls2 := #[.val (.int pr), .val (.int vl), .val (.int fc), .val (.int dn), .val (.int (6 : Int32)), .val (.int (2 : Int32)), .val (.ref t399), .unset, .unset, .unset, .unset, .unset, .unset]) P399.q at_38 rfl rfl rfl ?_
    refine W.g_iload (pc1 := 42) P399.q at_40 rfl rfl ?_
    refine P399.callS (pc1 := 45) (wd hw (k := 5) rfl) (wd hw (k := 6) rfl) (wd hw (k := 2) rfl) (wd hw (k := 7) rfl) (by decide) (W.MetN.pay (W := 0) (c_nf2 l Z a0 hw h399) P399 (wd hw (k := 7) rfl) (wd hw (k := 2) rfl) (by decide) (by decide)) (argsL := [(.int (2 : Int32))]) (st0 := []) (lenOf pd_I_R_AF rfl) rfl rfl (Nat.le_of_eq rfl) (by rw [hml]; rfl) (by decide) (by decide) (fun _ _ _ q => by obtain ⟨_, _, _, q2, q3, _⟩ := q; exact ⟨q2.up P399.sz all0, CHr.keep (W.Ext.toKeep q3 []) sf0 P399.chv⟩) at_42 rfl ?_
    intro v400 T400 h400 L400 q400 P400
    obtain ⟨t400, k400, rfl, f400, E400, g400, V400⟩ := q400
    show W.Go p.tables e below _ (T400.setTop (mkF m 45 #[.val (.int pr), .val (.int vl), .val (.int fc), .val (.int dn), .val (.int (6 : Int32)), .val (.int (2 : Int32)), .val (.ref t399), .unset, .unset, .unset, .unset, .unset, .unset] [(.ref t400)]))
    have hdf : t399 ≠ t400 := Nat.ne_of_lt (Nat.lt_of_lt_of_le V399.lt g400)
    have Vd0 := V399.ext E400
    refine W.g_astore (pc1 := 47) (ls2 := #[.val (.int pr), .val (.int vl), .val (.int fc), .val (.int dn), .val (.int (6 : Int32)), .val (.int (2 : Int32)), .val (.ref t399), .val (.ref t400), .unset, .unset, .unset, .unset, .unset]) P400.q at_45 rfl rfl rfl ?_
    refine W.g_iconst (pc1 := 48) (v := (0 : Int32)) P400.q at_47 (by decide) rfl ?_
    refine W.g_istore (pc1 := 50) (ls2 := #[.val (.int pr), .val (.int vl), .val (.int fc), .val (.int dn), .val (.int (6 : Int32)), .val (.int (2 : Int32)), .val (.ref t399), .val (.ref t400), .val (.int (0 : Int32)), .unset, .unset, .unset, .unset]) P400.q at_48 rfl rfl ?_
    refine W.g_iload (pc1 := 52) P400.q at_50 rfl rfl ?_
    refine W.g_iconst (pc1 := 53) (v := (1 : Int32)) P400.q at_52 (by decide) rfl ?_
    refine W.g_iand (pc1 := 54) P400.q at_53 rfl ?_
    refine W.g_ifY (pc1 := 76) P400.q at_54 (by decide) rfl (by decide) ?_
    refine W.g_iload (pc1 := 78) P400.q at_76 rfl rfl ?_
    refine W.g_iconst (pc1 := 79) (v := (2 : Int32)) P400.q at_78 (by decide) rfl ?_
    refine W.g_iand (pc1 := 80) P400.q at_79 rfl ?_
    refine W.g_ifN (pc2 := 83) P400.q at_80 rfl (by decide) ?_
    refine W.g_aload (pc1 := 85) P400.q at_83 rfl rfl rfl ?_
    refine W.g_iload (pc1 := 87) P400.q at_85 rfl rfl ?_
    refine W.g_iconst (pc1 := 88) (v := (1 : Int32)) P400.q at_87 (by decide) rfl ?_
    refine P400.stI (pc1 := 89) (i := 0) Vd0 (by decide) (by decide) (Nat.le_of_ble_eq_true rfl) rfl (Or.inr (Nat.le_trans P0.sz g399)) (Safe.arv P400.al Vd0 (by decide)) at_88 rfl ?_
    intro T401 h401 P401 W401 V401
    have Vf401 := V400.other W401 (Ne.symm hdf)
    refine W.g_aload (pc1 := 91) P401.q at_89 rfl rfl rfl ?_
    refine W.g_iload (pc1 := 93) P401.q at_91 rfl rfl ?_
    refine W.g_iloadN (pc1 := 94) P401.q at_93 rfl rfl ?_
    refine W.g_iconst (pc1 := 95) (v := (1 : Int32)) P401.q at_94 (by decide) rfl ?_
    refine P401.callS (pc1 := 98) (wd hw (k := 34) rfl) (wd hw (k := 35) rfl) (wd hw (k := 2) rfl) (wd hw (k := 36) rfl) (by decide) (W.MetN.pay (W := 2) (c_val l Z a0 hw vl 1 h401) P401 (wd hw (k := 36) rfl) (wd hw (k := 2) rfl) (by decide) (by decide)) (argsL := [(.int vl), (.int (1 : Int32))]) (st0 := [(.int (0 : Int32)), (.ref t400)]) (lenOf pd_II_R_F rfl) rfl rfl (Nat.le_of_eq rfl) (by rw [hml]; rfl) (by decide) (by decide) (W.Pure.ok P401.chv) at_95 rfl ?_
    intro v402 T402 h402 L402 q402 P402
    obtain ⟨rfl, rfl, rfl⟩ := q402
    show W.Go p.tables e below _ (T402.setTop (mkF m 98 #[.val (.int pr), .val (.int vl), .val (.int fc), .val (.int dn), .val (.int (6 : Int32)), .val (.int (2 : Int32)), .val (.ref t399), .val (.ref t400), .val (.int (0 : Int32)), .unset, .unset, .unset, .unset] [(.float (FP.i2f (own_vb vl 1))), (.int (0 : Int32)), (.ref t400)]))
    refine P402.stF (pc1 := 99) (i := 0) Vf401 (by decide) (by decide) (Nat.le_of_ble_eq_true rfl) rfl (Or.inr (Nat.le_trans P399.sz g400)) (Safe.arv P402.al Vf401 (by decide)) at_98 rfl ?_
    intro T403 h403 P403 W403 V403
    have Vd403 := V401.other W403 hdf
    refine W.g_iinc (pc1 := 102) (ls2 := #[.val (.int pr), .val (.int vl), .val (.int fc), .val (.int dn), .val (.int (6 : Int32)), .val (.int (2 : Int32)), .val (.ref t399), .val (.ref t400), .val (.int ((0 : Int32) + Int32.ofInt 1)), .unset, .unset, .unset, .unset]) P403.q at_99 rfl rfl rfl ?_
    show W.Go p.tables e below _ (T403.setTop (mkF m 102 #[.val (.int pr), .val (.int vl), .val (.int fc), .val (.int dn), .val (.int (6 : Int32)), .val (.int (2 : Int32)), .val (.ref t399), .val (.ref t400), .val (.int (1 : Int32)), .unset, .unset, .unset, .unset] []))
    refine W.g_iload (pc1 := 104) P403.q at_102 rfl rfl ?_
    refine W.g_iconst (pc1 := 105) (v := (4 : Int32)) P403.q at_104 (by decide) rfl ?_
    refine W.g_iand (pc1 := 106) P403.q at_105 rfl ?_
    refine W.g_ifN (pc2 := 109) P403.q at_106 rfl (by decide) ?_
    refine W.g_aload (pc1 := 111) P403.q at_109 rfl rfl rfl ?_
    refine W.g_iload (pc1 := 113) P403.q at_111 rfl rfl ?_
    refine W.g_iconst (pc1 := 114) (v := (2 : Int32)) P403.q at_113 (by decide) rfl ?_
    refine P403.stI (pc1 := 115) (i := 1) Vd403 (by decide) (by decide) (Nat.le_of_ble_eq_true rfl) rfl (Or.inr (Nat.le_trans P0.sz g399)) (Safe.arv P403.al Vd403 (by decide)) at_114 rfl ?_
    intro T404 h404 P404 W404 V404
    have Vf404 := V403.other W404 (Ne.symm hdf)
    refine W.g_aload (pc1 := 117) P404.q at_115 rfl rfl rfl ?_
    refine W.g_iload (pc1 := 119) P404.q at_117 rfl rfl ?_
    refine W.g_iloadN (pc1 := 120) P404.q at_119 rfl rfl ?_
    refine W.g_iconst (pc1 := 121) (v := (2 : Int32)) P404.q at_120 (by decide) rfl ?_
    refine P404.callS (pc1 := 124) (wd hw (k := 34) rfl) (wd hw (k := 35) rfl) (wd hw (k := 2) rfl) (wd hw (k := 36) rfl) (by decide) (W.MetN.pay (W := 2) (c_val l Z a0 hw vl 2 h404) P404 (wd hw (k := 36) rfl) (wd hw (k := 2) rfl) (by decide) (by decide)) (argsL := [(.int vl), (.int (2 : Int32))]) (st0 := [(.int (1 : Int32)), (.ref t400)]) (lenOf pd_II_R_F rfl) rfl rfl (Nat.le_of_eq rfl) (by rw [hml]; rfl) (by decide) (by decide) (W.Pure.ok P404.chv) at_121 rfl ?_
    intro v405 T405 h405 L405 q405 P405
    obtain ⟨rfl, rfl, rfl⟩ := q405
    show W.Go p.tables e below _ (T405.setTop (mkF m 124 #[.val (.int pr), .val (.int vl), .val (.int fc), .val (.int dn), .val (.int (6 : Int32)), .val (.int (2 : Int32)), .val (.ref t399), .val (.ref t400), .val (.int (1 : Int32)), .unset, .unset, .unset, .unset] [(.float (FP.i2f (own_vb vl 2))), (.int (1 : Int32)), (.ref t400)]))
    refine P405.stF (pc1 := 125) (i := 1) Vf404 (by decide) (by decide) (Nat.le_of_ble_eq_true rfl) rfl (Or.inr (Nat.le_trans P399.sz g400)) (Safe.arv P405.al Vf404 (by decide)) at_124 rfl ?_
    intro T406 h406 P406 W406 V406
    have Vd406 := V404.other W406 hdf
    refine W.g_iinc (pc1 := 128) (ls2 := #[.val (.int pr), .val (.int vl), .val (.int fc), .val (.int dn), .val (.int (6 : Int32)), .val (.int (2 : Int32)), .val (.ref t399), .val (.ref t400), .val (.int ((1 : Int32) + Int32.ofInt 1)), .unset, .unset, .unset, .unset]) P406.q at_125 rfl rfl rfl ?_
    show W.Go p.tables e below _ (T406.setTop (mkF m 128 #[.val (.int pr), .val (.int vl), .val (.int fc), .val (.int dn), .val (.int (6 : Int32)), .val (.int (2 : Int32)), .val (.ref t399), .val (.ref t400), .val (.int (2 : Int32)), .unset, .unset, .unset, .unset] []))
    refine W.g_iload (pc1 := 130) P406.q at_128 rfl rfl ?_
    refine W.g_bipush (pc1 := 132) (v := (8 : Int32)) P406.q at_130 (by decide) rfl ?_
    refine W.g_iand (pc1 := 133) P406.q at_132 rfl ?_
    refine W.g_ifY (pc1 := 155) P406.q at_133 (by decide) rfl (by decide) ?_
    refine W.g_iconst (pc1 := 156) (v := (4 : Int32)) P406.q at_155 (by decide) rfl ?_
    refine P406.newP (pc1 := 158) (cap := 4) (wd hw (k := 9) rfl) (by decide) (by decide) (by decide) (by decide) (by decide) at_156 rfl ?_
    intro T407 h407 x407 k407 g407 P407 E407 V407
    have Vd407 := Vd406.ext E407
    have Vf407 := V406.ext E407
    have hdz : t399 ≠ x407 := Nat.ne_of_lt (by rw [g407]; exact Vd406.lt)
    have hfz : t400 ≠ x407 := Nat.ne_of_lt (by rw [g407]; exact V406.lt)
    refine W.g_astore (pc1 := 160) (ls2 := #[.val (.int pr), .val (.int vl), .val (.int fc), .val (.int dn), .val (.int (6 : Int32)), .val (.int (2 : Int32)), .val (.ref t399), .val (.ref t400), .val (.int (2 : Int32)), .val (.ref x407), .unset, .unset, .unset]) P407.q at_158 rfl rfl rfl ?_
    refine W.g_aload (pc1 := 162) P407.q at_160 rfl rfl rfl ?_
    refine W.g_iconst (pc1 := 163) (v := (0 : Int32)) P407.q at_162 (by decide) rfl ?_
    refine W.g_iloadN (pc1 := 164) P407.q at_163 rfl rfl ?_
    refine W.g_iconst (pc1 := 165) (v := (0 : Int32)) P407.q at_164 (by decide) rfl ?_
    refine P407.callS (pc1 := 168) (wd hw (k := 10) rfl) (wd hw (k := 11) rfl) (wd hw (k := 2) rfl) (wd hw (k := 12) rfl) (by decide) (W.MetN.pay (W := 2) (c_dv l Z a0 hw dn 0 h407) P407 (wd hw (k := 12) rfl) (wd hw (k := 2) rfl) (by decide) (by decide)) (argsL := [(.int dn), (.int (0 : Int32))]) (st0 := [(.int (0 : Int32)), (.ref x407)]) (lenOf pd_II_R_D rfl) rfl rfl (Nat.le_of_eq rfl) (by rw [hml]; rfl) (by decide) (by decide) (W.Pure.ok P407.chv) at_165 rfl ?_
    intro v408 T408 h408 L408 q408 P408
    obtain ⟨rfl, rfl, rfl⟩ := q408
    show W.Go p.tables e below _ (T408.setTop (mkF m 168 #[.val (.int pr), .val (.int vl), .val (.int fc), .val (.int dn), .val (.int (6 : Int32)), .val (.int (2 : Int32)), .val (.ref t399), .val (.ref t400), .val (.int (2 : Int32)), .val (.ref x407), .unset, .unset, .unset] [(.double (FP.i2d (own_db dn 0))), (.int (0 : Int32)), (.ref x407)]))
    refine P408.stD (pc1 := 169) (i := 0) V407 (by decide) (by decide) (Nat.le_of_ble_eq_true rfl) rfl (Or.inr (by rw [g407]; exact P406.sz)) (Safe.arv P408.al V407 (by decide)) at_168 rfl ?_
    intro T409 h409 P409 W409 V409
    have Vd409 := Vd407.other W409 hdz
    have Vf409 := Vf407.other W409 hfz
    refine W.g_aload (pc1 := 171) P409.q at_169 rfl rfl rfl ?_
    refine W.g_iconst (pc1 := 172) (v := (1 : Int32)) P409.q at_171 (by decide) rfl ?_
    refine W.g_iloadN (pc1 := 173) P409.q at_172 rfl rfl ?_
    refine W.g_iconst (pc1 := 174) (v := (1 : Int32)) P409.q at_173 (by decide) rfl ?_
    refine P409.callS (pc1 := 177) (wd hw (k := 10) rfl) (wd hw (k := 11) rfl) (wd hw (k := 2) rfl) (wd hw (k := 12) rfl) (by decide) (W.MetN.pay (W := 2) (c_dv l Z a0 hw dn 1 h409) P409 (wd hw (k := 12) rfl) (wd hw (k := 2) rfl) (by decide) (by decide)) (argsL := [(.int dn), (.int (1 : Int32))]) (st0 := [(.int (1 : Int32)), (.ref x407)]) (lenOf pd_II_R_D rfl) rfl rfl (Nat.le_of_eq rfl) (by rw [hml]; rfl) (by decide) (by decide) (W.Pure.ok P409.chv) at_174 rfl ?_
    intro v410 T410 h410 L410 q410 P410
    obtain ⟨rfl, rfl, rfl⟩ := q410
    show W.Go p.tables e below _ (T410.setTop (mkF m 177 #[.val (.int pr), .val (.int vl), .val (.int fc), .val (.int dn), .val (.int (6 : Int32)), .val (.int (2 : Int32)), .val (.ref t399), .val (.ref t400), .val (.int (2 : Int32)), .val (.ref x407), .unset, .unset, .unset] [(.double (FP.i2d (own_db dn 1))), (.int (1 : Int32)), (.ref x407)]))
    refine P410.stD (pc1 := 178) (i := 1) V409 (by decide) (by decide) (Nat.le_of_ble_eq_true rfl) rfl (Or.inr (by rw [g407]; exact P406.sz)) (Safe.arv P410.al V409 (by decide)) at_177 rfl ?_
    intro T411 h411 P411 W411 V411
    have Vd411 := Vd409.other W411 hdz
    have Vf411 := Vf409.other W411 hfz
    refine W.g_aload (pc1 := 180) P411.q at_178 rfl rfl rfl ?_
    refine W.g_iconst (pc1 := 181) (v := (2 : Int32)) P411.q at_180 (by decide) rfl ?_
    refine W.g_iloadN (pc1 := 182) P411.q at_181 rfl rfl ?_
    refine W.g_iconst (pc1 := 183) (v := (2 : Int32)) P411.q at_182 (by decide) rfl ?_
    refine P411.callS (pc1 := 186) (wd hw (k := 10) rfl) (wd hw (k := 11) rfl) (wd hw (k := 2) rfl) (wd hw (k := 12) rfl) (by decide) (W.MetN.pay (W := 2) (c_dv l Z a0 hw dn 2 h411) P411 (wd hw (k := 12) rfl) (wd hw (k := 2) rfl) (by decide) (by decide)) (argsL := [(.int dn), (.int (2 : Int32))]) (st0 := [(.int (2 : Int32)), (.ref x407)]) (lenOf pd_II_R_D rfl) rfl rfl (Nat.le_of_eq rfl) (by rw [hml]; rfl) (by decide) (by decide) (W.Pure.ok P411.chv) at_183 rfl ?_
    intro v412 T412 h412 L412 q412 P412
    obtain ⟨rfl, rfl, rfl⟩ := q412
    show W.Go p.tables e below _ (T412.setTop (mkF m 186 #[.val (.int pr), .val (.int vl), .val (.int fc), .val (.int dn), .val (.int (6 : Int32)), .val (.int (2 : Int32)), .val (.ref t399), .val (.ref t400), .val (.int (2 : Int32)), .val (.ref x407), .unset, .unset, .unset] [(.double (FP.i2d (own_db dn 2))), (.int (2 : Int32)), (.ref x407)]))
    refine P412.stD (pc1 := 187) (i := 2) V411 (by decide) (by decide) (Nat.le_of_ble_eq_true rfl) rfl (Or.inr (by rw [g407]; exact P406.sz)) (Safe.arv P412.al V411 (by decide)) at_186 rfl ?_
    intro T413 h413 P413 W413 V413
    have Vd413 := Vd411.other W413 hdz
    have Vf413 := Vf411.other W413 hfz
    refine W.g_aload (pc1 := 189) P413.q at_187 rfl rfl rfl ?_
    refine W.g_iconst (pc1 := 190) (v := (3 : Int32)) P413.q at_189 (by decide) rfl ?_
    refine W.g_iloadN (pc1 := 191) P413.q at_190 rfl rfl ?_
    refine W.g_iconst (pc1 := 192) (v := (3 : Int32)) P413.q at_191 (by decide) rfl ?_
    refine P413.callS (pc1 := 195) (wd hw (k := 10) rfl) (wd hw (k := 11) rfl) (wd hw (k := 2) rfl) (wd hw (k := 12) rfl) (by decide) (W.MetN.pay (W := 2) (c_dv l Z a0 hw dn 3 h413) P413 (wd hw (k := 12) rfl) (wd hw (k := 2) rfl) (by decide) (by decide)) (argsL := [(.int dn), (.int (3 : Int32))]) (st0 := [(.int (3 : Int32)), (.ref x407)]) (lenOf pd_II_R_D rfl) rfl rfl (Nat.le_of_eq rfl) (by rw [hml]; rfl) (by decide) (by decide) (W.Pure.ok P413.chv) at_192 rfl ?_
    intro v414 T414 h414 L414 q414 P414
    obtain ⟨rfl, rfl, rfl⟩ := q414
    show W.Go p.tables e below _ (T414.setTop (mkF m 195 #[.val (.int pr), .val (.int vl), .val (.int fc), .val (.int dn), .val (.int (6 : Int32)), .val (.int (2 : Int32)), .val (.ref t399), .val (.ref t400), .val (.int (2 : Int32)), .val (.ref x407), .unset, .unset, .unset] [(.double (FP.i2d (own_db dn 3))), (.int (3 : Int32)), (.ref x407)]))
    refine P414.stD (pc1 := 196) (i := 3) V413 (by decide) (by decide) (Nat.le_of_ble_eq_true rfl) rfl (Or.inr (by rw [g407]; exact P406.sz)) (Safe.arv P414.al V413 (by decide)) at_195 rfl ?_
    intro T415 h415 P415 W415 V415
    have Vd415 := Vd413.other W415 hdz
    have Vf415 := Vf413.other W415 hfz
    refine W.g_iloadN (pc1 := 197) P415.q at_196 rfl rfl ?_
    refine W.g_i2d (pc1 := 198) P415.q at_197 rfl ?_
    refine W.g_dstore (pc1 := 200) (ls2 := #[.val (.int pr), .val (.int vl), .val (.int fc), .val (.int dn), .val (.int (6 : Int32)), .val (.int (2 : Int32)), .val (.ref t399), .val (.ref t400), .val (.int (2 : Int32)), .val (.ref x407), .val (.double (FP.i2d fc)), .second, .unset]) P415.q at_198 rfl rfl ?_
    refine P415.newO (pc1 := 203) (wd hw (k := 13) rfl) (wd hw (k := 14) rfl) (wd hw (k := 15) rfl) (by decide) (by decide) at_200 rfl ?_
    intro T416 h416 x416 g416 P416 E416 A416 D416 U416
    refine W.g_dup (pc1 := 204) P416.q at_203 rfl rfl ?_
    refine W.g_aload (pc1 := 206) P416.q at_204 rfl rfl rfl ?_
    refine W.g_aload (pc1 := 208) P416.q at_206 rfl rfl rfl ?_
    have Ndimensions : Fld Z h416 x416 "com/example/intent_search/intentsearch/rank/CategoryVector" "dimensions" "[I" .null := D416 (Or.inr (wd hw (k := 23) rfl)) (ty := (.array .int)) (by decide)
    have Nvalues : Fld Z h416 x416 "com/example/intent_search/intentsearch/rank/CategoryVector" "values" "[F" .null := D416 (Or.inr (wd hw (k := 25) rfl)) (ty := (.array .float)) (by decide)
    refine P416.callN (pc1 := 211) rfl (wd hw (k := 16) rfl) (wd hw (k := 17) rfl) (wd hw (k := 18) rfl) (by decide) (W.MetN.pay (W := 1) (c_cv l Z a0 hw x416 t399 t400 h416 A416 _ Ndimensions _ Nvalues) P416 (wd hw (k := 18) rfl) (wd hw (k := 15) rfl) (by decide) (by decide)) (argsL := [(.ref t399), (.ref t400)]) (st0 := [(.ref x416)]) (lenOf pd_AIAF_R_V rfl) rfl rfl (Nat.le_of_eq rfl) (by rw [hml]; rfl) (by decide) (by decide) (fun _ _ _ q => ⟨q.2.1.up P416.sz (allS (Or.inr (by rw [g416]; exact P415.sz)) all0), CHr.keep q.2.2.1 (sfS (Safe.exa P416.al A416 (by decide) (by decide)) sf0) P416.chv⟩) at_208 rfl ?_
    intro v417 T417 h417 L417 q417 P417
    obtain ⟨rfl, f417, K417, A417, Fd417, Fv417⟩ := q417
    show W.Go p.tables e below _ (T417.setTop (mkF m 211 #[.val (.int pr), .val (.int vl), .val (.int fc), .val (.int dn), .val (.int (6 : Int32)), .val (.int (2 : Int32)), .val (.ref t399), .val (.ref t400), .val (.int (2 : Int32)), .val (.ref x407), .val (.double (FP.i2d fc)), .second, .unset] [(.ref x416)]))
    have Vdq := (Vd415.ext E416).keep K417 (ninS (Ne.symm (Exa.neArv A416 (Vd415.ext E416) (wd hw (k := 14) rfl))) nin0)
    have Vfq := (Vf415.ext E416).keep K417 (ninS (Ne.symm (Exa.neArv A416 (Vf415.ext E416) (wd hw (k := 14) rfl))) nin0)
    have Vzq := (V415.ext E416).keep K417 (ninS (Ne.symm (Exa.neArv A416 (V415.ext E416) (wd hw (k := 14) rfl))) nin0)
    have hxz : x416 ≠ x407 := Exa.neArv A417 Vzq (wd hw (k := 14) rfl)
    refine W.g_astore (pc1 := 213) (ls2 := #[.val (.int pr), .val (.int vl), .val (.int fc), .val (.int dn), .val (.int (6 : Int32)), .val (.int (2 : Int32)), .val (.ref t399), .val (.ref t400), .val (.int (2 : Int32)), .val (.ref x407), .val (.double (FP.i2d fc)), .second, .val (.ref x416)]) P417.q at_211 rfl rfl rfl ?_
    refine W.g_aload (pc1 := 215) P417.q at_213 rfl rfl rfl ?_
    refine W.g_aload (pc1 := 217) P417.q at_215 rfl rfl rfl ?_
    refine W.g_dload (pc1 := 219) P417.q at_217 rfl rfl ?_
    have ok0 := own_one (f := fc) (own_dbb dn 0) (own_vbb vl 0)
    have ok1 := own_one (f := fc) (own_dbb dn 1) (own_vbb vl 1)
    have ok2 := own_one (f := fc) (own_dbb dn 2) (own_vbb vl 2)
    have ok3 := own_one (f := fc) (own_dbb dn 3) (own_vbb vl 3)
    refine P417.callV (pc1 := 222) A417 (wd hw (k := 26) rfl) (wd hw (k := 27) rfl) (wd hw (k := 29) rfl) (wd hw (k := 28) rfl) (notFace_of_selects (args := #[]) (mvT P417.hz (wd hw (k := 29) rfl))) (by decide) (W.MetN.pay (W := 0) (c_add6 l Z a0 hw x416 t399 t400 x407 _ _ _ (FP.i2d (own_db dn 0)) (FP.i2d (own_db dn 1)) (FP.i2d (own_db dn 2)) (FP.i2d (own_db dn 3)) (FP.i2d fc) (FP.i2f (own_vb vl 1)) ok1.1 ok1.2.1 ok1.2.2 (FP.i2f (own_vb vl 2)) ok2.1 ok2.2.1 ok2.2.2 h417 A417 Fd417 Fv417 Vdq Vfq Vzq hdz hfz hxz) P417 (wd hw (k := 30) rfl) (wd hw (k := 15) rfl) (by decide) (by decide)) (argsL := [(.ref x407), (.double (FP.i2d fc))]) (st0 := []) (lenOf pd_ADD_R_V rfl) rfl rfl (Nat.le_of_eq rfl) (by rw [hml]; rfl) (by decide) (by decide) (fun _ _ _ q => ⟨q.2.1.up P417.sz (allS (Or.inr (by rw [g407]; exact P406.sz)) all0), CHr.keep q.2.2.1 (sfS (Safe.arv P417.al Vzq (by decide)) sf0) P417.chv⟩) at_219 rfl ?_
    intro v418 T418 h418 L418 q418 P418
    obtain ⟨rfl, f418, K418, V418⟩ := q418
    show W.Go p.tables e below _ (T418.setTop (mkF m 222 #[.val (.int pr), .val (.int vl), .val (.int fc), .val (.int dn), .val (.int (6 : Int32)), .val (.int (2 : Int32)), .val (.ref t399), .val (.ref t400), .val (.int (2 : Int32)), .val (.ref x407), .val (.double (FP.i2d fc)), .second, .val (.ref x416)] []))
    refine W.g_aload (pc1 := 224) P418.q at_222 rfl rfl rfl ?_
    refine W.g_iconst (pc1 := 225) (v := (0 : Int32)) P418.q at_224 (by decide) rfl ?_
    refine W.g_iload (pc1 := 227) P418.q at_225 rfl rfl ?_
    refine W.g_iloadN (pc1 := 228) P418.q at_227 rfl rfl ?_
    refine W.g_iloadN (pc1 := 229) P418.q at_228 rfl rfl ?_
    refine W.g_dload (pc1 := 231) P418.q at_229 rfl rfl ?_
    refine P418.callS (pc1 := 234) (wd hw (k := 31) rfl) (wd hw (k := 32) rfl) (wd hw (k := 2) rfl) (wd hw (k := 33) rfl) (by decide) (W.MetN.pay (W := 0) (c_chk00 l Z a0 hw x407 _ _ _ _ _ (FP.i2d fc) 6 vl dn (by decide) own_self h418 V418) P418 (wd hw (k := 33) rfl) (wd hw (k := 2) rfl) (by decide) (by decide)) (argsL := [(.ref x407), (.int (0 : Int32)), (.int (6 : Int32)), (.int vl), (.int dn), (.double (FP.i2d fc))]) (st0 := []) (lenOf pd_ADIIIID_R_Z rfl) rfl rfl (Nat.le_of_eq rfl) (by rw [hml]; rfl) (by decide) (by decide) (W.Pure.ok P418.chv) at_231 rfl ?_
    intro v419 T419 h419 L419 q419 P419
    obtain ⟨rfl, rfl, rfl⟩ := q419
    show W.Go p.tables e below _ (T419.setTop (mkF m 234 #[.val (.int pr), .val (.int vl), .val (.int fc), .val (.int dn), .val (.int (6 : Int32)), .val (.int (2 : Int32)), .val (.ref t399), .val (.ref t400), .val (.int (2 : Int32)), .val (.ref x407), .val (.double (FP.i2d fc)), .second, .val (.ref x416)] [(.int (1 : Int32))]))
    refine W.g_ifN (pc2 := 237) P419.q at_234 rfl (by decide) ?_
    refine W.g_aload (pc1 := 239) P419.q at_237 rfl rfl rfl ?_
    refine W.g_iconst (pc1 := 240) (v := (1 : Int32)) P419.q at_239 (by decide) rfl ?_
    refine W.g_iload (pc1 := 242) P419.q at_240 rfl rfl ?_
    refine W.g_iloadN (pc1 := 243) P419.q at_242 rfl rfl ?_
    refine W.g_iloadN (pc1 := 244) P419.q at_243 rfl rfl ?_
    refine W.g_dload (pc1 := 246) P419.q at_244 rfl rfl ?_
    refine P419.callS (pc1 := 249) (wd hw (k := 31) rfl) (wd hw (k := 32) rfl) (wd hw (k := 2) rfl) (wd hw (k := 33) rfl) (by decide) (W.MetN.pay (W := 0) (c_chk11 l Z a0 hw x407 _ _ _ _ _ (FP.i2d fc) 6 vl dn (by decide) ok1.1 ok1.2.1 ok1.2.2 (dcmpV_self ok1.2.2 .l) h418 V418) P419 (wd hw (k := 33) rfl) (wd hw (k := 2) rfl) (by decide) (by decide)) (argsL := [(.ref x407), (.int (1 : Int32)), (.int (6 : Int32)), (.int vl), (.int dn), (.double (FP.i2d fc))]) (st0 := []) (lenOf pd_ADIIIID_R_Z rfl) rfl rfl (Nat.le_of_eq rfl) (by rw [hml]; rfl) (by decide) (by decide) (W.Pure.ok P419.chv) at_246 rfl ?_
    intro v420 T420 h420 L420 q420 P420
    obtain ⟨rfl, rfl, rfl⟩ := q420
    show W.Go p.tables e below _ (T420.setTop (mkF m 249 #[.val (.int pr), .val (.int vl), .val (.int fc), .val (.int dn), .val (.int (6 : Int32)), .val (.int (2 : Int32)), .val (.ref t399), .val (.ref t400), .val (.int (2 : Int32)), .val (.ref x407), .val (.double (FP.i2d fc)), .second, .val (.ref x416)] [(.int (1 : Int32))]))
    refine W.g_ifN (pc2 := 252) P420.q at_249 rfl (by decide) ?_
    refine W.g_aload (pc1 := 254) P420.q at_252 rfl rfl rfl ?_
    refine W.g_iconst (pc1 := 255) (v := (2 : Int32)) P420.q at_254 (by decide) rfl ?_
    refine W.g_iload (pc1 := 257) P420.q at_255 rfl rfl ?_
    refine W.g_iloadN (pc1 := 258) P420.q at_257 rfl rfl ?_
    refine W.g_iloadN (pc1 := 259) P420.q at_258 rfl rfl ?_
    refine W.g_dload (pc1 := 261) P420.q at_259 rfl rfl ?_
    refine P420.callS (pc1 := 264) (wd hw (k := 31) rfl) (wd hw (k := 32) rfl) (wd hw (k := 2) rfl) (wd hw (k := 33) rfl) (by decide) (W.MetN.pay (W := 0) (c_chk21 l Z a0 hw x407 _ _ _ _ _ (FP.i2d fc) 6 vl dn (by decide) ok2.1 ok2.2.1 ok2.2.2 (dcmpV_self ok2.2.2 .l) h418 V418) P420 (wd hw (k := 33) rfl) (wd hw (k := 2) rfl) (by decide) (by decide)) (argsL := [(.ref x407), (.int (2 : Int32)), (.int (6 : Int32)), (.int vl), (.int dn), (.double (FP.i2d fc))]) (st0 := []) (lenOf pd_ADIIIID_R_Z rfl) rfl rfl (Nat.le_of_eq rfl) (by rw [hml]; rfl) (by decide) (by decide) (W.Pure.ok P420.chv) at_261 rfl ?_
    intro v421 T421 h421 L421 q421 P421
    obtain ⟨rfl, rfl, rfl⟩ := q421
    show W.Go p.tables e below _ (T421.setTop (mkF m 264 #[.val (.int pr), .val (.int vl), .val (.int fc), .val (.int dn), .val (.int (6 : Int32)), .val (.int (2 : Int32)), .val (.ref t399), .val (.ref t400), .val (.int (2 : Int32)), .val (.ref x407), .val (.double (FP.i2d fc)), .second, .val (.ref x416)] [(.int (1 : Int32))]))
    refine W.g_ifN (pc2 := 267) P421.q at_264 rfl (by decide) ?_
    refine W.g_aload (pc1 := 269) P421.q at_267 rfl rfl rfl ?_
    refine W.g_iconst (pc1 := 270) (v := (3 : Int32)) P421.q at_269 (by decide) rfl ?_
    refine W.g_iload (pc1 := 272) P421.q at_270 rfl rfl ?_
    refine W.g_iloadN (pc1 := 273) P421.q at_272 rfl rfl ?_
    refine W.g_iloadN (pc1 := 274) P421.q at_273 rfl rfl ?_
    refine W.g_dload (pc1 := 276) P421.q at_274 rfl rfl ?_
    refine P421.callS (pc1 := 279) (wd hw (k := 31) rfl) (wd hw (k := 32) rfl) (wd hw (k := 2) rfl) (wd hw (k := 33) rfl) (by decide) (W.MetN.pay (W := 0) (c_chk30 l Z a0 hw x407 _ _ _ _ _ (FP.i2d fc) 6 vl dn (by decide) own_self h418 V418) P421 (wd hw (k := 33) rfl) (wd hw (k := 2) rfl) (by decide) (by decide)) (argsL := [(.ref x407), (.int (3 : Int32)), (.int (6 : Int32)), (.int vl), (.int dn), (.double (FP.i2d fc))]) (st0 := []) (lenOf pd_ADIIIID_R_Z rfl) rfl rfl (Nat.le_of_eq rfl) (by rw [hml]; rfl) (by decide) (by decide) (W.Pure.ok P421.chv) at_276 rfl ?_
    intro v422 T422 h422 L422 q422 P422
    obtain ⟨rfl, rfl, rfl⟩ := q422
    show W.Go p.tables e below _ (T422.setTop (mkF m 279 #[.val (.int pr), .val (.int vl), .val (.int fc), .val (.int dn), .val (.int (6 : Int32)), .val (.int (2 : Int32)), .val (.ref t399), .val (.ref t400), .val (.int (2 : Int32)), .val (.ref x407), .val (.double (FP.i2d fc)), .second, .val (.ref x416)] [(.int (1 : Int32))]))
    refine W.g_ifN (pc2 := 282) P422.q at_279 rfl (by decide) ?_
    refine W.g_iconst (pc1 := 283) (v := (1 : Int32)) P422.q at_282 (by decide) rfl ?_
    refine W.g_goto (pc1 := 287) P422.q at_283 (by decide) rfl ?_
    exact P422.retVN hlk hret (Or.inl rfl) at_287 (by decide) (by decide) ⟨rfl, P422.fr⟩
  · show W.Go p.tables e below _ (s₁.setTop (mkF m 4 #[.val (.int pr), .val (.int vl), .val (.int fc), .val (.int dn), .unset, .unset, .unset, .unset, .unset, .unset, .unset, .unset, .unset] [(.int (7 : Int32))]))
    refine W.g_istore (pc1 := 6) (ls2 := #[.val (.int pr), .val (.int vl), .val (.int fc), .val (.int dn), .val (.int (7 : Int32)), .unset, .unset, .unset, .unset, .unset, .unset, .unset, .unset]) P0.q at_4 rfl rfl ?_
    refine W.g_iload (pc1 := 8) P0.q at_6 rfl rfl ?_
    refine W.g_iconst (pc1 := 9) (v := (1 : Int32)) P0.q at_8 (by decide) rfl ?_
    refine W.g_iand (pc1 := 10) P0.q at_9 rfl ?_
    refine W.g_iload (pc1 := 12) P0.q at_10 rfl rfl ?_
    refine W.g_iconst (pc1 := 13) (v := (1 : Int32)) P0.q at_12 (by decide) rfl ?_
    refine W.g_ishr (pc1 := 14) P0.q at_13 rfl ?_
    refine W.g_iconst (pc1 := 15) (v := (1 : Int32)) P0.q at_14 (by decide) rfl ?_
    refine W.g_iand (pc1 := 16) P0.q at_15 rfl ?_
    refine W.g_iadd (pc1 := 17) P0.q at_16 rfl ?_
    refine W.g_iload (pc1 := 19) P0.q at_17 rfl rfl ?_
    refine W.g_iconst (pc1 := 20) (v := (2 : Int32)) P0.q at_19 (by decide) rfl ?_
    refine W.g_ishr (pc1 := 21) P0.q at_20 rfl ?_
    refine W.g_iconst (pc1 := 22) (v := (1 : Int32)) P0.q at_21 (by decide) rfl ?_
    refine W.g_iand (pc1 := 23) P0.q at_22 rfl ?_
    refine W.g_iadd (pc1 := 24) P0.q at_23 rfl ?_
    refine W.g_iload (pc1 := 26) P0.q at_24 rfl rfl ?_
    refine W.g_iconst (pc1 := 27) (v := (3 : Int32)) P0.q at_26 (by decide) rfl ?_
    refine W.g_ishr (pc1 := 28) P0.q at_27 rfl ?_
    refine W.g_iconst (pc1 := 29) (v := (1 : Int32)) P0.q at_28 (by decide) rfl ?_
    refine W.g_iand (pc1 := 30) P0.q at_29 rfl ?_
    refine W.g_iadd (pc1 := 31) P0.q at_30 rfl ?_
    rw [show (((((7 : Int32) &&& (1 : Int32)) + (((7 : Int32) >>> ((1 : Int32) &&& 31)) &&& (1 : Int32))) + (((7 : Int32) >>> ((2 : Int32) &&& 31)) &&& (1 : Int32))) + (((7 : Int32) >>> ((3 : Int32) &&& 31)) &&& (1 : Int32))) = (3 : Int32) from by decide]
    refine W.g_istore (pc1 := 33) (ls2 := #[.val (.int pr), .val (.int vl), .val (.int fc), .val (.int dn), .val (.int (7 : Int32)), .val (.int (3 : Int32)), .unset, .unset, .unset, .unset, .unset, .unset, .unset]) P0.q at_31 rfl rfl ?_
    refine W.g_iload (pc1 := 35) P0.q at_33 rfl rfl ?_
    refine P0.callS (pc1 := 38) (wd hw (k := 0) rfl) (wd hw (k := 1) rfl) (wd hw (k := 2) rfl) (wd hw (k := 3) rfl) (by decide) (W.MetN.pay (W := 0) (c_ni3 l Z a0 hw h0) P0 (wd hw (k := 3) rfl) (wd hw (k := 2) rfl) (by decide) (by decide)) (argsL := [(.int (3 : Int32))]) (st0 := []) (lenOf pd_I_R_AI rfl) rfl rfl (Nat.le_of_eq rfl) (by rw [hml]; rfl) (by decide) (by decide) (fun _ _ _ q => by obtain ⟨_, _, _, q2, q3, _⟩ := q; exact ⟨q2.up P0.sz all0, CHr.keep (W.Ext.toKeep q3 []) sf0 P0.chv⟩) at_35 rfl ?_
    intro v423 T423 h423 L423 q423 P423
    obtain ⟨t423, k423, rfl, f423, E423, g423, V423⟩ := q423
    show W.Go p.tables e below _ (T423.setTop (mkF m 38 #[.val (.int pr), .val (.int vl), .val (.int fc), .val (.int dn), .val (.int (7 : Int32)), .val (.int (3 : Int32)), .unset, .unset, .unset, .unset, .unset, .unset, .unset] [(.ref t423)]))
    refine W.g_astore (pc1 := 40) (ls2 := #[.val (.int pr), .val (.int vl), .val (.int fc), .val (.int dn), .val (.int (7 : Int32)), .val (.int (3 : Int32)), .val (.ref t423), .unset, .unset, .unset, .unset, .unset, .unset]) P423.q at_38 rfl rfl rfl ?_
    refine W.g_iload (pc1 := 42) P423.q at_40 rfl rfl ?_
    refine P423.callS (pc1 := 45) (wd hw (k := 5) rfl) (wd hw (k := 6) rfl) (wd hw (k := 2) rfl) (wd hw (k := 7) rfl) (by decide) (W.MetN.pay (W := 0) (c_nf3 l Z a0 hw h423) P423 (wd hw (k := 7) rfl) (wd hw (k := 2) rfl) (by decide) (by decide)) (argsL := [(.int (3 : Int32))]) (st0 := []) (lenOf pd_I_R_AF rfl) rfl rfl (Nat.le_of_eq rfl) (by rw [hml]; rfl) (by decide) (by decide) (fun _ _ _ q => by obtain ⟨_, _, _, q2, q3, _⟩ := q; exact ⟨q2.up P423.sz all0, CHr.keep (W.Ext.toKeep q3 []) sf0 P423.chv⟩) at_42 rfl ?_
    intro v424 T424 h424 L424 q424 P424
    obtain ⟨t424, k424, rfl, f424, E424, g424, V424⟩ := q424
    show W.Go p.tables e below _ (T424.setTop (mkF m 45 #[.val (.int pr), .val (.int vl), .val (.int fc), .val (.int dn), .val (.int (7 : Int32)), .val (.int (3 : Int32)), .val (.ref t423), .unset, .unset, .unset, .unset, .unset, .unset] [(.ref t424)]))
    have hdf : t423 ≠ t424 := Nat.ne_of_lt (Nat.lt_of_lt_of_le V423.lt g424)
    have Vd0 := V423.ext E424
    refine W.g_astore (pc1 := 47) (ls2 := #[.val (.int pr), .val (.int vl), .val (.int fc), .val (.int dn), .val (.int (7 : Int32)), .val (.int (3 : Int32)), .val (.ref t423), .val (.ref t424), .unset, .unset, .unset, .unset, .unset]) P424.q at_45 rfl rfl rfl ?_
    refine W.g_iconst (pc1 := 48) (v := (0 : Int32)) P424.q at_47 (by decide) rfl ?_
    refine W.g_istore (pc1 := 50) (ls2 := #[.val (.int pr), .val (.int vl), .val (.int fc), .val (.int dn), .val (.int (7 : Int32)), .val (.int (3 : Int32)), .val (.ref t423), .val (.ref t424), .val (.int (0 : Int32)), .unset, .unset, .unset, .unset]) P424.q at_48 rfl rfl ?_
    refine W.g_iload (pc1 := 52) P424.q at_50 rfl rfl ?_
    refine W.g_iconst (pc1 := 53) (v := (1 : Int32)) P424.q at_52 (by decide) rfl ?_
    refine W.g_iand (pc1 := 54) P424.q at_53 rfl ?_
    refine W.g_ifN (pc2 := 57) P424.q at_54 rfl (by decide) ?_
    refine W.g_aload (pc1 := 59) P424.q at_57 rfl rfl rfl ?_
    refine W.g_iload (pc1 := 61) P424.q at_59 rfl rfl ?_
    refine W.g_iconst (pc1 := 62) (v := (0 : Int32)) P424.q at_61 (by decide) rfl ?_
    refine P424.stI (pc1 := 63) (i := 0) Vd0 (by decide) (by decide) (Nat.le_of_ble_eq_true rfl) rfl (Or.inr (Nat.le_trans P0.sz g423)) (Safe.arv P424.al Vd0 (by decide)) at_62 rfl ?_
    intro T425 h425 P425 W425 V425
    have Vf425 := V424.other W425 (Ne.symm hdf)
    refine W.g_aload (pc1 := 65) P425.q at_63 rfl rfl rfl ?_
    refine W.g_iload (pc1 := 67) P425.q at_65 rfl rfl ?_
    refine W.g_iloadN (pc1 := 68) P425.q at_67 rfl rfl ?_
    refine W.g_iconst (pc1 := 69) (v := (0 : Int32)) P425.q at_68 (by decide) rfl ?_
    refine P425.callS (pc1 := 72) (wd hw (k := 34) rfl) (wd hw (k := 35) rfl) (wd hw (k := 2) rfl) (wd hw (k := 36) rfl) (by decide) (W.MetN.pay (W := 2) (c_val l Z a0 hw vl 0 h425) P425 (wd hw (k := 36) rfl) (wd hw (k := 2) rfl) (by decide) (by decide)) (argsL := [(.int vl), (.int (0 : Int32))]) (st0 := [(.int (0 : Int32)), (.ref t424)]) (lenOf pd_II_R_F rfl) rfl rfl (Nat.le_of_eq rfl) (by rw [hml]; rfl) (by decide) (by decide) (W.Pure.ok P425.chv) at_69 rfl ?_
    intro v426 T426 h426 L426 q426 P426
    obtain ⟨rfl, rfl, rfl⟩ := q426
    show W.Go p.tables e below _ (T426.setTop (mkF m 72 #[.val (.int pr), .val (.int vl), .val (.int fc), .val (.int dn), .val (.int (7 : Int32)), .val (.int (3 : Int32)), .val (.ref t423), .val (.ref t424), .val (.int (0 : Int32)), .unset, .unset, .unset, .unset] [(.float (FP.i2f (own_vb vl 0))), (.int (0 : Int32)), (.ref t424)]))
    refine P426.stF (pc1 := 73) (i := 0) Vf425 (by decide) (by decide) (Nat.le_of_ble_eq_true rfl) rfl (Or.inr (Nat.le_trans P423.sz g424)) (Safe.arv P426.al Vf425 (by decide)) at_72 rfl ?_
    intro T427 h427 P427 W427 V427
    have Vd427 := V425.other W427 hdf
    refine W.g_iinc (pc1 := 76) (ls2 := #[.val (.int pr), .val (.int vl), .val (.int fc), .val (.int dn), .val (.int (7 : Int32)), .val (.int (3 : Int32)), .val (.ref t423), .val (.ref t424), .val (.int ((0 : Int32) + Int32.ofInt 1)), .unset, .unset, .unset, .unset]) P427.q at_73 rfl rfl rfl ?_
    show W.Go p.tables e below _ (T427.setTop (mkF m 76 #[.val (.int pr), .val (.int vl), .val (.int fc), .val (.int dn), .val (.int (7 : Int32)), .val (.int (3 : Int32)), .val (.ref t423), .val (.ref t424), .val (.int (1 : Int32)), .unset, .unset, .unset, .unset] []))
    refine W.g_iload (pc1 := 78) P427.q at_76 rfl rfl ?_
    refine W.g_iconst (pc1 := 79) (v := (2 : Int32)) P427.q at_78 (by decide) rfl ?_
    refine W.g_iand (pc1 := 80) P427.q at_79 rfl ?_
    refine W.g_ifN (pc2 := 83) P427.q at_80 rfl (by decide) ?_
    refine W.g_aload (pc1 := 85) P427.q at_83 rfl rfl rfl ?_
    refine W.g_iload (pc1 := 87) P427.q at_85 rfl rfl ?_
    refine W.g_iconst (pc1 := 88) (v := (1 : Int32)) P427.q at_87 (by decide) rfl ?_
    refine P427.stI (pc1 := 89) (i := 1) Vd427 (by decide) (by decide) (Nat.le_of_ble_eq_true rfl) rfl (Or.inr (Nat.le_trans P0.sz g423)) (Safe.arv P427.al Vd427 (by decide)) at_88 rfl ?_
    intro T428 h428 P428 W428 V428
    have Vf428 := V427.other W428 (Ne.symm hdf)
    refine W.g_aload (pc1 := 91) P428.q at_89 rfl rfl rfl ?_
    refine W.g_iload (pc1 := 93) P428.q at_91 rfl rfl ?_
    refine W.g_iloadN (pc1 := 94) P428.q at_93 rfl rfl ?_
    refine W.g_iconst (pc1 := 95) (v := (1 : Int32)) P428.q at_94 (by decide) rfl ?_
    refine P428.callS (pc1 := 98) (wd hw (k := 34) rfl) (wd hw (k := 35) rfl) (wd hw (k := 2) rfl) (wd hw (k := 36) rfl) (by decide) (W.MetN.pay (W := 2) (c_val l Z a0 hw vl 1 h428) P428 (wd hw (k := 36) rfl) (wd hw (k := 2) rfl) (by decide) (by decide)) (argsL := [(.int vl), (.int (1 : Int32))]) (st0 := [(.int (1 : Int32)), (.ref t424)]) (lenOf pd_II_R_F rfl) rfl rfl (Nat.le_of_eq rfl) (by rw [hml]; rfl) (by decide) (by decide) (W.Pure.ok P428.chv) at_95 rfl ?_
    intro v429 T429 h429 L429 q429 P429
    obtain ⟨rfl, rfl, rfl⟩ := q429
    show W.Go p.tables e below _ (T429.setTop (mkF m 98 #[.val (.int pr), .val (.int vl), .val (.int fc), .val (.int dn), .val (.int (7 : Int32)), .val (.int (3 : Int32)), .val (.ref t423), .val (.ref t424), .val (.int (1 : Int32)), .unset, .unset, .unset, .unset] [(.float (FP.i2f (own_vb vl 1))), (.int (1 : Int32)), (.ref t424)]))
    refine P429.stF (pc1 := 99) (i := 1) Vf428 (by decide) (by decide) (Nat.le_of_ble_eq_true rfl) rfl (Or.inr (Nat.le_trans P423.sz g424)) (Safe.arv P429.al Vf428 (by decide)) at_98 rfl ?_
    intro T430 h430 P430 W430 V430
    have Vd430 := V428.other W430 hdf
    refine W.g_iinc (pc1 := 102) (ls2 := #[.val (.int pr), .val (.int vl), .val (.int fc), .val (.int dn), .val (.int (7 : Int32)), .val (.int (3 : Int32)), .val (.ref t423), .val (.ref t424), .val (.int ((1 : Int32) + Int32.ofInt 1)), .unset, .unset, .unset, .unset]) P430.q at_99 rfl rfl rfl ?_
    show W.Go p.tables e below _ (T430.setTop (mkF m 102 #[.val (.int pr), .val (.int vl), .val (.int fc), .val (.int dn), .val (.int (7 : Int32)), .val (.int (3 : Int32)), .val (.ref t423), .val (.ref t424), .val (.int (2 : Int32)), .unset, .unset, .unset, .unset] []))
    refine W.g_iload (pc1 := 104) P430.q at_102 rfl rfl ?_
    refine W.g_iconst (pc1 := 105) (v := (4 : Int32)) P430.q at_104 (by decide) rfl ?_
    refine W.g_iand (pc1 := 106) P430.q at_105 rfl ?_
    refine W.g_ifN (pc2 := 109) P430.q at_106 rfl (by decide) ?_
    refine W.g_aload (pc1 := 111) P430.q at_109 rfl rfl rfl ?_
    refine W.g_iload (pc1 := 113) P430.q at_111 rfl rfl ?_
    refine W.g_iconst (pc1 := 114) (v := (2 : Int32)) P430.q at_113 (by decide) rfl ?_
    refine P430.stI (pc1 := 115) (i := 2) Vd430 (by decide) (by decide) (Nat.le_of_ble_eq_true rfl) rfl (Or.inr (Nat.le_trans P0.sz g423)) (Safe.arv P430.al Vd430 (by decide)) at_114 rfl ?_
    intro T431 h431 P431 W431 V431
    have Vf431 := V430.other W431 (Ne.symm hdf)
    refine W.g_aload (pc1 := 117) P431.q at_115 rfl rfl rfl ?_
    refine W.g_iload (pc1 := 119) P431.q at_117 rfl rfl ?_
    refine W.g_iloadN (pc1 := 120) P431.q at_119 rfl rfl ?_
    refine W.g_iconst (pc1 := 121) (v := (2 : Int32)) P431.q at_120 (by decide) rfl ?_
    refine P431.callS (pc1 := 124) (wd hw (k := 34) rfl) (wd hw (k := 35) rfl) (wd hw (k := 2) rfl) (wd hw (k := 36) rfl) (by decide) (W.MetN.pay (W := 2) (c_val l Z a0 hw vl 2 h431) P431 (wd hw (k := 36) rfl) (wd hw (k := 2) rfl) (by decide) (by decide)) (argsL := [(.int vl), (.int (2 : Int32))]) (st0 := [(.int (2 : Int32)), (.ref t424)]) (lenOf pd_II_R_F rfl) rfl rfl (Nat.le_of_eq rfl) (by rw [hml]; rfl) (by decide) (by decide) (W.Pure.ok P431.chv) at_121 rfl ?_
    intro v432 T432 h432 L432 q432 P432
    obtain ⟨rfl, rfl, rfl⟩ := q432
    show W.Go p.tables e below _ (T432.setTop (mkF m 124 #[.val (.int pr), .val (.int vl), .val (.int fc), .val (.int dn), .val (.int (7 : Int32)), .val (.int (3 : Int32)), .val (.ref t423), .val (.ref t424), .val (.int (2 : Int32)), .unset, .unset, .unset, .unset] [(.float (FP.i2f (own_vb vl 2))), (.int (2 : Int32)), (.ref t424)]))
    refine P432.stF (pc1 := 125) (i := 2) Vf431 (by decide) (by decide) (Nat.le_of_ble_eq_true rfl) rfl (Or.inr (Nat.le_trans P423.sz g424)) (Safe.arv P432.al Vf431 (by decide)) at_124 rfl ?_
    intro T433 h433 P433 W433 V433
    have Vd433 := V431.other W433 hdf
    refine W.g_iinc (pc1 := 128) (ls2 := #[.val (.int pr), .val (.int vl), .val (.int fc), .val (.int dn), .val (.int (7 : Int32)), .val (.int (3 : Int32)), .val (.ref t423), .val (.ref t424), .val (.int ((2 : Int32) + Int32.ofInt 1)), .unset, .unset, .unset, .unset]) P433.q at_125 rfl rfl rfl ?_
    show W.Go p.tables e below _ (T433.setTop (mkF m 128 #[.val (.int pr), .val (.int vl), .val (.int fc), .val (.int dn), .val (.int (7 : Int32)), .val (.int (3 : Int32)), .val (.ref t423), .val (.ref t424), .val (.int (3 : Int32)), .unset, .unset, .unset, .unset] []))
    refine W.g_iload (pc1 := 130) P433.q at_128 rfl rfl ?_
    refine W.g_bipush (pc1 := 132) (v := (8 : Int32)) P433.q at_130 (by decide) rfl ?_
    refine W.g_iand (pc1 := 133) P433.q at_132 rfl ?_
    refine W.g_ifY (pc1 := 155) P433.q at_133 (by decide) rfl (by decide) ?_
    refine W.g_iconst (pc1 := 156) (v := (4 : Int32)) P433.q at_155 (by decide) rfl ?_
    refine P433.newP (pc1 := 158) (cap := 4) (wd hw (k := 9) rfl) (by decide) (by decide) (by decide) (by decide) (by decide) at_156 rfl ?_
    intro T434 h434 x434 k434 g434 P434 E434 V434
    have Vd434 := Vd433.ext E434
    have Vf434 := V433.ext E434
    have hdz : t423 ≠ x434 := Nat.ne_of_lt (by rw [g434]; exact Vd433.lt)
    have hfz : t424 ≠ x434 := Nat.ne_of_lt (by rw [g434]; exact V433.lt)
    refine W.g_astore (pc1 := 160) (ls2 := #[.val (.int pr), .val (.int vl), .val (.int fc), .val (.int dn), .val (.int (7 : Int32)), .val (.int (3 : Int32)), .val (.ref t423), .val (.ref t424), .val (.int (3 : Int32)), .val (.ref x434), .unset, .unset, .unset]) P434.q at_158 rfl rfl rfl ?_
    refine W.g_aload (pc1 := 162) P434.q at_160 rfl rfl rfl ?_
    refine W.g_iconst (pc1 := 163) (v := (0 : Int32)) P434.q at_162 (by decide) rfl ?_
    refine W.g_iloadN (pc1 := 164) P434.q at_163 rfl rfl ?_
    refine W.g_iconst (pc1 := 165) (v := (0 : Int32)) P434.q at_164 (by decide) rfl ?_
    refine P434.callS (pc1 := 168) (wd hw (k := 10) rfl) (wd hw (k := 11) rfl) (wd hw (k := 2) rfl) (wd hw (k := 12) rfl) (by decide) (W.MetN.pay (W := 2) (c_dv l Z a0 hw dn 0 h434) P434 (wd hw (k := 12) rfl) (wd hw (k := 2) rfl) (by decide) (by decide)) (argsL := [(.int dn), (.int (0 : Int32))]) (st0 := [(.int (0 : Int32)), (.ref x434)]) (lenOf pd_II_R_D rfl) rfl rfl (Nat.le_of_eq rfl) (by rw [hml]; rfl) (by decide) (by decide) (W.Pure.ok P434.chv) at_165 rfl ?_
    intro v435 T435 h435 L435 q435 P435
    obtain ⟨rfl, rfl, rfl⟩ := q435
    show W.Go p.tables e below _ (T435.setTop (mkF m 168 #[.val (.int pr), .val (.int vl), .val (.int fc), .val (.int dn), .val (.int (7 : Int32)), .val (.int (3 : Int32)), .val (.ref t423), .val (.ref t424), .val (.int (3 : Int32)), .val (.ref x434), .unset, .unset, .unset] [(.double (FP.i2d (own_db dn 0))), (.int (0 : Int32)), (.ref x434)]))
    refine P435.stD (pc1 := 169) (i := 0) V434 (by decide) (by decide) (Nat.le_of_ble_eq_true rfl) rfl (Or.inr (by rw [g434]; exact P433.sz)) (Safe.arv P435.al V434 (by decide)) at_168 rfl ?_
    intro T436 h436 P436 W436 V436
    have Vd436 := Vd434.other W436 hdz
    have Vf436 := Vf434.other W436 hfz
    refine W.g_aload (pc1 := 171) P436.q at_169 rfl rfl rfl ?_
    refine W.g_iconst (pc1 := 172) (v := (1 : Int32)) P436.q at_171 (by decide) rfl ?_
    refine W.g_iloadN (pc1 := 173) P436.q at_172 rfl rfl ?_
    refine W.g_iconst (pc1 := 174) (v := (1 : Int32)) P436.q at_173 (by decide) rfl ?_
    refine P436.callS (pc1 := 177) (wd hw (k := 10) rfl) (wd hw (k := 11) rfl) (wd hw (k := 2) rfl) (wd hw (k := 12) rfl) (by decide) (W.MetN.pay (W := 2) (c_dv l Z a0 hw dn 1 h436) P436 (wd hw (k := 12) rfl) (wd hw (k := 2) rfl) (by decide) (by decide)) (argsL := [(.int dn), (.int (1 : Int32))]) (st0 := [(.int (1 : Int32)), (.ref x434)]) (lenOf pd_II_R_D rfl) rfl rfl (Nat.le_of_eq rfl) (by rw [hml]; rfl) (by decide) (by decide) (W.Pure.ok P436.chv) at_174 rfl ?_
    intro v437 T437 h437 L437 q437 P437
    obtain ⟨rfl, rfl, rfl⟩ := q437
    show W.Go p.tables e below _ (T437.setTop (mkF m 177 #[.val (.int pr), .val (.int vl), .val (.int fc), .val (.int dn), .val (.int (7 : Int32)), .val (.int (3 : Int32)), .val (.ref t423), .val (.ref t424), .val (.int (3 : Int32)), .val (.ref x434), .unset, .unset, .unset] [(.double (FP.i2d (own_db dn 1))), (.int (1 : Int32)), (.ref x434)]))
    refine P437.stD (pc1 := 178) (i := 1) V436 (by decide) (by decide) (Nat.le_of_ble_eq_true rfl) rfl (Or.inr (by rw [g434]; exact P433.sz)) (Safe.arv P437.al V436 (by decide)) at_177 rfl ?_
    intro T438 h438 P438 W438 V438
    have Vd438 := Vd436.other W438 hdz
    have Vf438 := Vf436.other W438 hfz
    refine W.g_aload (pc1 := 180) P438.q at_178 rfl rfl rfl ?_
    refine W.g_iconst (pc1 := 181) (v := (2 : Int32)) P438.q at_180 (by decide) rfl ?_
    refine W.g_iloadN (pc1 := 182) P438.q at_181 rfl rfl ?_
    refine W.g_iconst (pc1 := 183) (v := (2 : Int32)) P438.q at_182 (by decide) rfl ?_
    refine P438.callS (pc1 := 186) (wd hw (k := 10) rfl) (wd hw (k := 11) rfl) (wd hw (k := 2) rfl) (wd hw (k := 12) rfl) (by decide) (W.MetN.pay (W := 2) (c_dv l Z a0 hw dn 2 h438) P438 (wd hw (k := 12) rfl) (wd hw (k := 2) rfl) (by decide) (by decide)) (argsL := [(.int dn), (.int (2 : Int32))]) (st0 := [(.int (2 : Int32)), (.ref x434)]) (lenOf pd_II_R_D rfl) rfl rfl (Nat.le_of_eq rfl) (by rw [hml]; rfl) (by decide) (by decide) (W.Pure.ok P438.chv) at_183 rfl ?_
    intro v439 T439 h439 L439 q439 P439
    obtain ⟨rfl, rfl, rfl⟩ := q439
    show W.Go p.tables e below _ (T439.setTop (mkF m 186 #[.val (.int pr), .val (.int vl), .val (.int fc), .val (.int dn), .val (.int (7 : Int32)), .val (.int (3 : Int32)), .val (.ref t423), .val (.ref t424), .val (.int (3 : Int32)), .val (.ref x434), .unset, .unset, .unset] [(.double (FP.i2d (own_db dn 2))), (.int (2 : Int32)), (.ref x434)]))
    refine P439.stD (pc1 := 187) (i := 2) V438 (by decide) (by decide) (Nat.le_of_ble_eq_true rfl) rfl (Or.inr (by rw [g434]; exact P433.sz)) (Safe.arv P439.al V438 (by decide)) at_186 rfl ?_
    intro T440 h440 P440 W440 V440
    have Vd440 := Vd438.other W440 hdz
    have Vf440 := Vf438.other W440 hfz
    refine W.g_aload (pc1 := 189) P440.q at_187 rfl rfl rfl ?_
    refine W.g_iconst (pc1 := 190) (v := (3 : Int32)) P440.q at_189 (by decide) rfl ?_
    refine W.g_iloadN (pc1 := 191) P440.q at_190 rfl rfl ?_
    refine W.g_iconst (pc1 := 192) (v := (3 : Int32)) P440.q at_191 (by decide) rfl ?_
    refine P440.callS (pc1 := 195) (wd hw (k := 10) rfl) (wd hw (k := 11) rfl) (wd hw (k := 2) rfl) (wd hw (k := 12) rfl) (by decide) (W.MetN.pay (W := 2) (c_dv l Z a0 hw dn 3 h440) P440 (wd hw (k := 12) rfl) (wd hw (k := 2) rfl) (by decide) (by decide)) (argsL := [(.int dn), (.int (3 : Int32))]) (st0 := [(.int (3 : Int32)), (.ref x434)]) (lenOf pd_II_R_D rfl) rfl rfl (Nat.le_of_eq rfl) (by rw [hml]; rfl) (by decide) (by decide) (W.Pure.ok P440.chv) at_192 rfl ?_
    intro v441 T441 h441 L441 q441 P441
    obtain ⟨rfl, rfl, rfl⟩ := q441
    show W.Go p.tables e below _ (T441.setTop (mkF m 195 #[.val (.int pr), .val (.int vl), .val (.int fc), .val (.int dn), .val (.int (7 : Int32)), .val (.int (3 : Int32)), .val (.ref t423), .val (.ref t424), .val (.int (3 : Int32)), .val (.ref x434), .unset, .unset, .unset] [(.double (FP.i2d (own_db dn 3))), (.int (3 : Int32)), (.ref x434)]))
    refine P441.stD (pc1 := 196) (i := 3) V440 (by decide) (by decide) (Nat.le_of_ble_eq_true rfl) rfl (Or.inr (by rw [g434]; exact P433.sz)) (Safe.arv P441.al V440 (by decide)) at_195 rfl ?_
    intro T442 h442 P442 W442 V442
    have Vd442 := Vd440.other W442 hdz
    have Vf442 := Vf440.other W442 hfz
    refine W.g_iloadN (pc1 := 197) P442.q at_196 rfl rfl ?_
    refine W.g_i2d (pc1 := 198) P442.q at_197 rfl ?_
    refine W.g_dstore (pc1 := 200) (ls2 := #[.val (.int pr), .val (.int vl), .val (.int fc), .val (.int dn), .val (.int (7 : Int32)), .val (.int (3 : Int32)), .val (.ref t423), .val (.ref t424), .val (.int (3 : Int32)), .val (.ref x434), .val (.double (FP.i2d fc)), .second, .unset]) P442.q at_198 rfl rfl ?_
    refine P442.newO (pc1 := 203) (wd hw (k := 13) rfl) (wd hw (k := 14) rfl) (wd hw (k := 15) rfl) (by decide) (by decide) at_200 rfl ?_
    intro T443 h443 x443 g443 P443 E443 A443 D443 U443
    refine W.g_dup (pc1 := 204) P443.q at_203 rfl rfl ?_
    refine W.g_aload (pc1 := 206) P443.q at_204 rfl rfl rfl ?_
    refine W.g_aload (pc1 := 208) P443.q at_206 rfl rfl rfl ?_
    have Ndimensions : Fld Z h443 x443 "com/example/intent_search/intentsearch/rank/CategoryVector" "dimensions" "[I" .null := D443 (Or.inr (wd hw (k := 23) rfl)) (ty := (.array .int)) (by decide)
    have Nvalues : Fld Z h443 x443 "com/example/intent_search/intentsearch/rank/CategoryVector" "values" "[F" .null := D443 (Or.inr (wd hw (k := 25) rfl)) (ty := (.array .float)) (by decide)
    refine P443.callN (pc1 := 211) rfl (wd hw (k := 16) rfl) (wd hw (k := 17) rfl) (wd hw (k := 18) rfl) (by decide) (W.MetN.pay (W := 1) (c_cv l Z a0 hw x443 t423 t424 h443 A443 _ Ndimensions _ Nvalues) P443 (wd hw (k := 18) rfl) (wd hw (k := 15) rfl) (by decide) (by decide)) (argsL := [(.ref t423), (.ref t424)]) (st0 := [(.ref x443)]) (lenOf pd_AIAF_R_V rfl) rfl rfl (Nat.le_of_eq rfl) (by rw [hml]; rfl) (by decide) (by decide) (fun _ _ _ q => ⟨q.2.1.up P443.sz (allS (Or.inr (by rw [g443]; exact P442.sz)) all0), CHr.keep q.2.2.1 (sfS (Safe.exa P443.al A443 (by decide) (by decide)) sf0) P443.chv⟩) at_208 rfl ?_
    intro v444 T444 h444 L444 q444 P444
    obtain ⟨rfl, f444, K444, A444, Fd444, Fv444⟩ := q444
    show W.Go p.tables e below _ (T444.setTop (mkF m 211 #[.val (.int pr), .val (.int vl), .val (.int fc), .val (.int dn), .val (.int (7 : Int32)), .val (.int (3 : Int32)), .val (.ref t423), .val (.ref t424), .val (.int (3 : Int32)), .val (.ref x434), .val (.double (FP.i2d fc)), .second, .unset] [(.ref x443)]))
    have Vdq := (Vd442.ext E443).keep K444 (ninS (Ne.symm (Exa.neArv A443 (Vd442.ext E443) (wd hw (k := 14) rfl))) nin0)
    have Vfq := (Vf442.ext E443).keep K444 (ninS (Ne.symm (Exa.neArv A443 (Vf442.ext E443) (wd hw (k := 14) rfl))) nin0)
    have Vzq := (V442.ext E443).keep K444 (ninS (Ne.symm (Exa.neArv A443 (V442.ext E443) (wd hw (k := 14) rfl))) nin0)
    have hxz : x443 ≠ x434 := Exa.neArv A444 Vzq (wd hw (k := 14) rfl)
    refine W.g_astore (pc1 := 213) (ls2 := #[.val (.int pr), .val (.int vl), .val (.int fc), .val (.int dn), .val (.int (7 : Int32)), .val (.int (3 : Int32)), .val (.ref t423), .val (.ref t424), .val (.int (3 : Int32)), .val (.ref x434), .val (.double (FP.i2d fc)), .second, .val (.ref x443)]) P444.q at_211 rfl rfl rfl ?_
    refine W.g_aload (pc1 := 215) P444.q at_213 rfl rfl rfl ?_
    refine W.g_aload (pc1 := 217) P444.q at_215 rfl rfl rfl ?_
    refine W.g_dload (pc1 := 219) P444.q at_217 rfl rfl ?_
    have ok0 := own_one (f := fc) (own_dbb dn 0) (own_vbb vl 0)
    have ok1 := own_one (f := fc) (own_dbb dn 1) (own_vbb vl 1)
    have ok2 := own_one (f := fc) (own_dbb dn 2) (own_vbb vl 2)
    have ok3 := own_one (f := fc) (own_dbb dn 3) (own_vbb vl 3)
    refine P444.callV (pc1 := 222) A444 (wd hw (k := 26) rfl) (wd hw (k := 27) rfl) (wd hw (k := 29) rfl) (wd hw (k := 28) rfl) (notFace_of_selects (args := #[]) (mvT P444.hz (wd hw (k := 29) rfl))) (by decide) (W.MetN.pay (W := 0) (c_add7 l Z a0 hw x443 t423 t424 x434 _ _ _ (FP.i2d (own_db dn 0)) (FP.i2d (own_db dn 1)) (FP.i2d (own_db dn 2)) (FP.i2d (own_db dn 3)) (FP.i2d fc) (FP.i2f (own_vb vl 0)) ok0.1 ok0.2.1 ok0.2.2 (FP.i2f (own_vb vl 1)) ok1.1 ok1.2.1 ok1.2.2 (FP.i2f (own_vb vl 2)) ok2.1 ok2.2.1 ok2.2.2 h444 A444 Fd444 Fv444 Vdq Vfq Vzq hdz hfz hxz) P444 (wd hw (k := 30) rfl) (wd hw (k := 15) rfl) (by decide) (by decide)) (argsL := [(.ref x434), (.double (FP.i2d fc))]) (st0 := []) (lenOf pd_ADD_R_V rfl) rfl rfl (Nat.le_of_eq rfl) (by rw [hml]; rfl) (by decide) (by decide) (fun _ _ _ q => ⟨q.2.1.up P444.sz (allS (Or.inr (by rw [g434]; exact P433.sz)) all0), CHr.keep q.2.2.1 (sfS (Safe.arv P444.al Vzq (by decide)) sf0) P444.chv⟩) at_219 rfl ?_
    intro v445 T445 h445 L445 q445 P445
    obtain ⟨rfl, f445, K445, V445⟩ := q445
    show W.Go p.tables e below _ (T445.setTop (mkF m 222 #[.val (.int pr), .val (.int vl), .val (.int fc), .val (.int dn), .val (.int (7 : Int32)), .val (.int (3 : Int32)), .val (.ref t423), .val (.ref t424), .val (.int (3 : Int32)), .val (.ref x434), .val (.double (FP.i2d fc)), .second, .val (.ref x443)] []))
    refine W.g_aload (pc1 := 224) P445.q at_222 rfl rfl rfl ?_
    refine W.g_iconst (pc1 := 225) (v := (0 : Int32)) P445.q at_224 (by decide) rfl ?_
    refine W.g_iload (pc1 := 227) P445.q at_225 rfl rfl ?_
    refine W.g_iloadN (pc1 := 228) P445.q at_227 rfl rfl ?_
    refine W.g_iloadN (pc1 := 229) P445.q at_228 rfl rfl ?_
    refine W.g_dload (pc1 := 231) P445.q at_229 rfl rfl ?_
    refine P445.callS (pc1 := 234) (wd hw (k := 31) rfl) (wd hw (k := 32) rfl) (wd hw (k := 2) rfl) (wd hw (k := 33) rfl) (by decide) (W.MetN.pay (W := 0) (c_chk01 l Z a0 hw x434 _ _ _ _ _ (FP.i2d fc) 7 vl dn (by decide) ok0.1 ok0.2.1 ok0.2.2 (dcmpV_self ok0.2.2 .l) h445 V445) P445 (wd hw (k := 33) rfl) (wd hw (k := 2) rfl) (by decide) (by decide)) (argsL := [(.ref x434), (.int (0 : Int32)), (.int (7 : Int32)), (.int vl), (.int dn), (.double (FP.i2d fc))]) (st0 := []) (lenOf pd_ADIIIID_R_Z rfl) rfl rfl (Nat.le_of_eq rfl) (by rw [hml]; rfl) (by decide) (by decide) (W.Pure.ok P445.chv) at_231 rfl ?_
    intro v446 T446 h446 L446 q446 P446
    obtain ⟨rfl, rfl, rfl⟩ := q446
    show W.Go p.tables e below _ (T446.setTop (mkF m 234 #[.val (.int pr), .val (.int vl), .val (.int fc), .val (.int dn), .val (.int (7 : Int32)), .val (.int (3 : Int32)), .val (.ref t423), .val (.ref t424), .val (.int (3 : Int32)), .val (.ref x434), .val (.double (FP.i2d fc)), .second, .val (.ref x443)] [(.int (1 : Int32))]))
    refine W.g_ifN (pc2 := 237) P446.q at_234 rfl (by decide) ?_
    refine W.g_aload (pc1 := 239) P446.q at_237 rfl rfl rfl ?_
    refine W.g_iconst (pc1 := 240) (v := (1 : Int32)) P446.q at_239 (by decide) rfl ?_
    refine W.g_iload (pc1 := 242) P446.q at_240 rfl rfl ?_
    refine W.g_iloadN (pc1 := 243) P446.q at_242 rfl rfl ?_
    refine W.g_iloadN (pc1 := 244) P446.q at_243 rfl rfl ?_
    refine W.g_dload (pc1 := 246) P446.q at_244 rfl rfl ?_
    refine P446.callS (pc1 := 249) (wd hw (k := 31) rfl) (wd hw (k := 32) rfl) (wd hw (k := 2) rfl) (wd hw (k := 33) rfl) (by decide) (W.MetN.pay (W := 0) (c_chk11 l Z a0 hw x434 _ _ _ _ _ (FP.i2d fc) 7 vl dn (by decide) ok1.1 ok1.2.1 ok1.2.2 (dcmpV_self ok1.2.2 .l) h445 V445) P446 (wd hw (k := 33) rfl) (wd hw (k := 2) rfl) (by decide) (by decide)) (argsL := [(.ref x434), (.int (1 : Int32)), (.int (7 : Int32)), (.int vl), (.int dn), (.double (FP.i2d fc))]) (st0 := []) (lenOf pd_ADIIIID_R_Z rfl) rfl rfl (Nat.le_of_eq rfl) (by rw [hml]; rfl) (by decide) (by decide) (W.Pure.ok P446.chv) at_246 rfl ?_
    intro v447 T447 h447 L447 q447 P447
    obtain ⟨rfl, rfl, rfl⟩ := q447
    show W.Go p.tables e below _ (T447.setTop (mkF m 249 #[.val (.int pr), .val (.int vl), .val (.int fc), .val (.int dn), .val (.int (7 : Int32)), .val (.int (3 : Int32)), .val (.ref t423), .val (.ref t424), .val (.int (3 : Int32)), .val (.ref x434), .val (.double (FP.i2d fc)), .second, .val (.ref x443)] [(.int (1 : Int32))]))
    refine W.g_ifN (pc2 := 252) P447.q at_249 rfl (by decide) ?_
    refine W.g_aload (pc1 := 254) P447.q at_252 rfl rfl rfl ?_
    refine W.g_iconst (pc1 := 255) (v := (2 : Int32)) P447.q at_254 (by decide) rfl ?_
    refine W.g_iload (pc1 := 257) P447.q at_255 rfl rfl ?_
    refine W.g_iloadN (pc1 := 258) P447.q at_257 rfl rfl ?_
    refine W.g_iloadN (pc1 := 259) P447.q at_258 rfl rfl ?_
    refine W.g_dload (pc1 := 261) P447.q at_259 rfl rfl ?_
    refine P447.callS (pc1 := 264) (wd hw (k := 31) rfl) (wd hw (k := 32) rfl) (wd hw (k := 2) rfl) (wd hw (k := 33) rfl) (by decide) (W.MetN.pay (W := 0) (c_chk21 l Z a0 hw x434 _ _ _ _ _ (FP.i2d fc) 7 vl dn (by decide) ok2.1 ok2.2.1 ok2.2.2 (dcmpV_self ok2.2.2 .l) h445 V445) P447 (wd hw (k := 33) rfl) (wd hw (k := 2) rfl) (by decide) (by decide)) (argsL := [(.ref x434), (.int (2 : Int32)), (.int (7 : Int32)), (.int vl), (.int dn), (.double (FP.i2d fc))]) (st0 := []) (lenOf pd_ADIIIID_R_Z rfl) rfl rfl (Nat.le_of_eq rfl) (by rw [hml]; rfl) (by decide) (by decide) (W.Pure.ok P447.chv) at_261 rfl ?_
    intro v448 T448 h448 L448 q448 P448
    obtain ⟨rfl, rfl, rfl⟩ := q448
    show W.Go p.tables e below _ (T448.setTop (mkF m 264 #[.val (.int pr), .val (.int vl), .val (.int fc), .val (.int dn), .val (.int (7 : Int32)), .val (.int (3 : Int32)), .val (.ref t423), .val (.ref t424), .val (.int (3 : Int32)), .val (.ref x434), .val (.double (FP.i2d fc)), .second, .val (.ref x443)] [(.int (1 : Int32))]))
    refine W.g_ifN (pc2 := 267) P448.q at_264 rfl (by decide) ?_
    refine W.g_aload (pc1 := 269) P448.q at_267 rfl rfl rfl ?_
    refine W.g_iconst (pc1 := 270) (v := (3 : Int32)) P448.q at_269 (by decide) rfl ?_
    refine W.g_iload (pc1 := 272) P448.q at_270 rfl rfl ?_
    refine W.g_iloadN (pc1 := 273) P448.q at_272 rfl rfl ?_
    refine W.g_iloadN (pc1 := 274) P448.q at_273 rfl rfl ?_
    refine W.g_dload (pc1 := 276) P448.q at_274 rfl rfl ?_
    refine P448.callS (pc1 := 279) (wd hw (k := 31) rfl) (wd hw (k := 32) rfl) (wd hw (k := 2) rfl) (wd hw (k := 33) rfl) (by decide) (W.MetN.pay (W := 0) (c_chk30 l Z a0 hw x434 _ _ _ _ _ (FP.i2d fc) 7 vl dn (by decide) own_self h445 V445) P448 (wd hw (k := 33) rfl) (wd hw (k := 2) rfl) (by decide) (by decide)) (argsL := [(.ref x434), (.int (3 : Int32)), (.int (7 : Int32)), (.int vl), (.int dn), (.double (FP.i2d fc))]) (st0 := []) (lenOf pd_ADIIIID_R_Z rfl) rfl rfl (Nat.le_of_eq rfl) (by rw [hml]; rfl) (by decide) (by decide) (W.Pure.ok P448.chv) at_276 rfl ?_
    intro v449 T449 h449 L449 q449 P449
    obtain ⟨rfl, rfl, rfl⟩ := q449
    show W.Go p.tables e below _ (T449.setTop (mkF m 279 #[.val (.int pr), .val (.int vl), .val (.int fc), .val (.int dn), .val (.int (7 : Int32)), .val (.int (3 : Int32)), .val (.ref t423), .val (.ref t424), .val (.int (3 : Int32)), .val (.ref x434), .val (.double (FP.i2d fc)), .second, .val (.ref x443)] [(.int (1 : Int32))]))
    refine W.g_ifN (pc2 := 282) P449.q at_279 rfl (by decide) ?_
    refine W.g_iconst (pc1 := 283) (v := (1 : Int32)) P449.q at_282 (by decide) rfl ?_
    refine W.g_goto (pc1 := 287) P449.q at_283 (by decide) rfl ?_
    exact P449.retVN hlk hret (Or.inl rfl) at_287 (by decide) (by decide) ⟨rfl, P449.fr⟩
  · show W.Go p.tables e below _ (s₁.setTop (mkF m 4 #[.val (.int pr), .val (.int vl), .val (.int fc), .val (.int dn), .unset, .unset, .unset, .unset, .unset, .unset, .unset, .unset, .unset] [(.int (8 : Int32))]))
    refine W.g_istore (pc1 := 6) (ls2 := #[.val (.int pr), .val (.int vl), .val (.int fc), .val (.int dn), .val (.int (8 : Int32)), .unset, .unset, .unset, .unset, .unset, .unset, .unset, .unset]) P0.q at_4 rfl rfl ?_
    refine W.g_iload (pc1 := 8) P0.q at_6 rfl rfl ?_
    refine W.g_iconst (pc1 := 9) (v := (1 : Int32)) P0.q at_8 (by decide) rfl ?_
    refine W.g_iand (pc1 := 10) P0.q at_9 rfl ?_
    refine W.g_iload (pc1 := 12) P0.q at_10 rfl rfl ?_
    refine W.g_iconst (pc1 := 13) (v := (1 : Int32)) P0.q at_12 (by decide) rfl ?_
    refine W.g_ishr (pc1 := 14) P0.q at_13 rfl ?_
    refine W.g_iconst (pc1 := 15) (v := (1 : Int32)) P0.q at_14 (by decide) rfl ?_
    refine W.g_iand (pc1 := 16) P0.q at_15 rfl ?_
    refine W.g_iadd (pc1 := 17) P0.q at_16 rfl ?_
    refine W.g_iload (pc1 := 19) P0.q at_17 rfl rfl ?_
    refine W.g_iconst (pc1 := 20) (v := (2 : Int32)) P0.q at_19 (by decide) rfl ?_
    refine W.g_ishr (pc1 := 21) P0.q at_20 rfl ?_
    refine W.g_iconst (pc1 := 22) (v := (1 : Int32)) P0.q at_21 (by decide) rfl ?_
    refine W.g_iand (pc1 := 23) P0.q at_22 rfl ?_
    refine W.g_iadd (pc1 := 24) P0.q at_23 rfl ?_
    refine W.g_iload (pc1 := 26) P0.q at_24 rfl rfl ?_
    refine W.g_iconst (pc1 := 27) (v := (3 : Int32)) P0.q at_26 (by decide) rfl ?_
    refine W.g_ishr (pc1 := 28) P0.q at_27 rfl ?_
    refine W.g_iconst (pc1 := 29) (v := (1 : Int32)) P0.q at_28 (by decide) rfl ?_
    refine W.g_iand (pc1 := 30) P0.q at_29 rfl ?_
    refine W.g_iadd (pc1 := 31) P0.q at_30 rfl ?_
    rw [show (((((8 : Int32) &&& (1 : Int32)) + (((8 : Int32) >>> ((1 : Int32) &&& 31)) &&& (1 : Int32))) + (((8 : Int32) >>> ((2 : Int32) &&& 31)) &&& (1 : Int32))) + (((8 : Int32) >>> ((3 : Int32) &&& 31)) &&& (1 : Int32))) = (1 : Int32) from by decide]
    refine W.g_istore (pc1 := 33) (ls2 := #[.val (.int pr), .val (.int vl), .val (.int fc), .val (.int dn), .val (.int (8 : Int32)), .val (.int (1 : Int32)), .unset, .unset, .unset, .unset, .unset, .unset, .unset]) P0.q at_31 rfl rfl ?_
    refine W.g_iload (pc1 := 35) P0.q at_33 rfl rfl ?_
    refine P0.callS (pc1 := 38) (wd hw (k := 0) rfl) (wd hw (k := 1) rfl) (wd hw (k := 2) rfl) (wd hw (k := 3) rfl) (by decide) (W.MetN.pay (W := 0) (c_ni1 l Z a0 hw h0) P0 (wd hw (k := 3) rfl) (wd hw (k := 2) rfl) (by decide) (by decide)) (argsL := [(.int (1 : Int32))]) (st0 := []) (lenOf pd_I_R_AI rfl) rfl rfl (Nat.le_of_eq rfl) (by rw [hml]; rfl) (by decide) (by decide) (fun _ _ _ q => by obtain ⟨_, _, _, q2, q3, _⟩ := q; exact ⟨q2.up P0.sz all0, CHr.keep (W.Ext.toKeep q3 []) sf0 P0.chv⟩) at_35 rfl ?_
    intro v450 T450 h450 L450 q450 P450
    obtain ⟨t450, k450, rfl, f450, E450, g450, V450⟩ := q450
    show W.Go p.tables e below _ (T450.setTop (mkF m 38 #[.val (.int pr), .val (.int vl), .val (.int fc), .val (.int dn), .val (.int (8 : Int32)), .val (.int (1 : Int32)), .unset, .unset, .unset, .unset, .unset, .unset, .unset] [(.ref t450)]))
    refine W.g_astore (pc1 := 40) (ls2 := #[.val (.int pr), .val (.int vl), .val (.int fc), .val (.int dn), .val (.int (8 : Int32)), .val (.int (1 : Int32)), .val (.ref t450), .unset, .unset, .unset, .unset, .unset, .unset]) P450.q at_38 rfl rfl rfl ?_
    refine W.g_iload (pc1 := 42) P450.q at_40 rfl rfl ?_
    refine P450.callS (pc1 := 45) (wd hw (k := 5) rfl) (wd hw (k := 6) rfl) (wd hw (k := 2) rfl) (wd hw (k := 7) rfl) (by decide) (W.MetN.pay (W := 0) (c_nf1 l Z a0 hw h450) P450 (wd hw (k := 7) rfl) (wd hw (k := 2) rfl) (by decide) (by decide)) (argsL := [(.int (1 : Int32))]) (st0 := []) (lenOf pd_I_R_AF rfl) rfl rfl (Nat.le_of_eq rfl) (by rw [hml]; rfl) (by decide) (by decide) (fun _ _ _ q => by obtain ⟨_, _, _, q2, q3, _⟩ := q; exact ⟨q2.up P450.sz all0, CHr.keep (W.Ext.toKeep q3 []) sf0 P450.chv⟩) at_42 rfl ?_
    intro v451 T451 h451 L451 q451 P451
    obtain ⟨t451, k451, rfl, f451, E451, g451, V451⟩ := q451
    show W.Go p.tables e below _ (T451.setTop (mkF m 45 #[.val (.int pr), .val (.int vl), .val (.int fc), .val (.int dn), .val (.int (8 : Int32)), .val (.int (1 : Int32)), .val (.ref t450), .unset, .unset, .unset, .unset, .unset, .unset] [(.ref t451)]))
    have hdf : t450 ≠ t451 := Nat.ne_of_lt (Nat.lt_of_lt_of_le V450.lt g451)
    have Vd0 := V450.ext E451
    refine W.g_astore (pc1 := 47) (ls2 := #[.val (.int pr), .val (.int vl), .val (.int fc), .val (.int dn), .val (.int (8 : Int32)), .val (.int (1 : Int32)), .val (.ref t450), .val (.ref t451), .unset, .unset, .unset, .unset, .unset]) P451.q at_45 rfl rfl rfl ?_
    refine W.g_iconst (pc1 := 48) (v := (0 : Int32)) P451.q at_47 (by decide) rfl ?_
    refine W.g_istore (pc1 := 50) (ls2 := #[.val (.int pr), .val (.int vl), .val (.int fc), .val (.int dn), .val (.int (8 : Int32)), .val (.int (1 : Int32)), .val (.ref t450), .val (.ref t451), .val (.int (0 : Int32)), .unset, .unset, .unset, .unset]) P451.q at_48 rfl rfl ?_
    refine W.g_iload (pc1 := 52) P451.q at_50 rfl rfl ?_
    refine W.g_iconst (pc1 := 53) (v := (1 : Int32)) P451.q at_52 (by decide) rfl ?_
    refine W.g_iand (pc1 := 54) P451.q at_53 rfl ?_
    refine W.g_ifY (pc1 := 76) P451.q at_54 (by decide) rfl (by decide) ?_
    refine W.g_iload (pc1 := 78) P451.q at_76 rfl rfl ?_
    refine W.g_iconst (pc1 := 79) (v := (2 : Int32)) P451.q at_78 (by decide) rfl ?_
    refine W.g_iand (pc1 := 80) P451.q at_79 rfl ?_
    refine W.g_ifY (pc1 := 102) P451.q at_80 (by decide) rfl (by decide) ?_
    refine W.g_iload (pc1 := 104) P451.q at_102 rfl rfl ?_
    refine W.g_iconst (pc1 := 105) (v := (4 : Int32)) P451.q at_104 (by decide) rfl ?_
    refine W.g_iand (pc1 := 106) P451.q at_105 rfl ?_
    refine W.g_ifY (pc1 := 128) P451.q at_106 (by decide) rfl (by decide) ?_
    refine W.g_iload (pc1 := 130) P451.q at_128 rfl rfl ?_
    refine W.g_bipush (pc1 := 132) (v := (8 : Int32)) P451.q at_130 (by decide) rfl ?_
    refine W.g_iand (pc1 := 133) P451.q at_132 rfl ?_
    refine W.g_ifN (pc2 := 136) P451.q at_133 rfl (by decide) ?_
    refine W.g_aload (pc1 := 138) P451.q at_136 rfl rfl rfl ?_
    refine W.g_iload (pc1 := 140) P451.q at_138 rfl rfl ?_
    refine W.g_iconst (pc1 := 141) (v := (3 : Int32)) P451.q at_140 (by decide) rfl ?_
    refine P451.stI (pc1 := 142) (i := 0) Vd0 (by decide) (by decide) (Nat.le_of_ble_eq_true rfl) rfl (Or.inr (Nat.le_trans P0.sz g450)) (Safe.arv P451.al Vd0 (by decide)) at_141 rfl ?_
    intro T452 h452 P452 W452 V452
    have Vf452 := V451.other W452 (Ne.symm hdf)
    refine W.g_aload (pc1 := 144) P452.q at_142 rfl rfl rfl ?_
    refine W.g_iload (pc1 := 146) P452.q at_144 rfl rfl ?_
    refine W.g_iloadN (pc1 := 147) P452.q at_146 rfl rfl ?_
    refine W.g_iconst (pc1 := 148) (v := (3 : Int32)) P452.q at_147 (by decide) rfl ?_
    refine P452.callS (pc1 := 151) (wd hw (k := 34) rfl) (wd hw (k := 35) rfl) (wd hw (k := 2) rfl) (wd hw (k := 36) rfl) (by decide) (W.MetN.pay (W := 2) (c_val l Z a0 hw vl 3 h452) P452 (wd hw (k := 36) rfl) (wd hw (k := 2) rfl) (by decide) (by decide)) (argsL := [(.int vl), (.int (3 : Int32))]) (st0 := [(.int (0 : Int32)), (.ref t451)]) (lenOf pd_II_R_F rfl) rfl rfl (Nat.le_of_eq rfl) (by rw [hml]; rfl) (by decide) (by decide) (W.Pure.ok P452.chv) at_148 rfl ?_
    intro v453 T453 h453 L453 q453 P453
    obtain ⟨rfl, rfl, rfl⟩ := q453
    show W.Go p.tables e below _ (T453.setTop (mkF m 151 #[.val (.int pr), .val (.int vl), .val (.int fc), .val (.int dn), .val (.int (8 : Int32)), .val (.int (1 : Int32)), .val (.ref t450), .val (.ref t451), .val (.int (0 : Int32)), .unset, .unset, .unset, .unset] [(.float (FP.i2f (own_vb vl 3))), (.int (0 : Int32)), (.ref t451)]))
    refine P453.stF (pc1 := 152) (i := 0) Vf452 (by decide) (by decide) (Nat.le_of_ble_eq_true rfl) rfl (Or.inr (Nat.le_trans P450.sz g451)) (Safe.arv P453.al Vf452 (by decide)) at_151 rfl ?_
    intro T454 h454 P454 W454 V454
    have Vd454 := V452.other W454 hdf
    refine W.g_iinc (pc1 := 155) (ls2 := #[.val (.int pr), .val (.int vl), .val (.int fc), .val (.int dn), .val (.int (8 : Int32)), .val (.int (1 : Int32)), .val (.ref t450), .val (.ref t451), .val (.int ((0 : Int32) + Int32.ofInt 1)), .unset, .unset, .unset, .unset]) P454.q at_152 rfl rfl rfl ?_
    show W.Go p.tables e below _ (T454.setTop (mkF m 155 #[.val (.int pr), .val (.int vl), .val (.int fc), .val (.int dn), .val (.int (8 : Int32)), .val (.int (1 : Int32)), .val (.ref t450), .val (.ref t451), .val (.int (1 : Int32)), .unset, .unset, .unset, .unset] []))
    refine W.g_iconst (pc1 := 156) (v := (4 : Int32)) P454.q at_155 (by decide) rfl ?_
    refine P454.newP (pc1 := 158) (cap := 4) (wd hw (k := 9) rfl) (by decide) (by decide) (by decide) (by decide) (by decide) at_156 rfl ?_
    intro T455 h455 x455 k455 g455 P455 E455 V455
    have Vd455 := Vd454.ext E455
    have Vf455 := V454.ext E455
    have hdz : t450 ≠ x455 := Nat.ne_of_lt (by rw [g455]; exact Vd454.lt)
    have hfz : t451 ≠ x455 := Nat.ne_of_lt (by rw [g455]; exact V454.lt)
    refine W.g_astore (pc1 := 160) (ls2 := #[.val (.int pr), .val (.int vl), .val (.int fc), .val (.int dn), .val (.int (8 : Int32)), .val (.int (1 : Int32)), .val (.ref t450), .val (.ref t451), .val (.int (1 : Int32)), .val (.ref x455), .unset, .unset, .unset]) P455.q at_158 rfl rfl rfl ?_
    refine W.g_aload (pc1 := 162) P455.q at_160 rfl rfl rfl ?_
    refine W.g_iconst (pc1 := 163) (v := (0 : Int32)) P455.q at_162 (by decide) rfl ?_
    refine W.g_iloadN (pc1 := 164) P455.q at_163 rfl rfl ?_
    refine W.g_iconst (pc1 := 165) (v := (0 : Int32)) P455.q at_164 (by decide) rfl ?_
    refine P455.callS (pc1 := 168) (wd hw (k := 10) rfl) (wd hw (k := 11) rfl) (wd hw (k := 2) rfl) (wd hw (k := 12) rfl) (by decide) (W.MetN.pay (W := 2) (c_dv l Z a0 hw dn 0 h455) P455 (wd hw (k := 12) rfl) (wd hw (k := 2) rfl) (by decide) (by decide)) (argsL := [(.int dn), (.int (0 : Int32))]) (st0 := [(.int (0 : Int32)), (.ref x455)]) (lenOf pd_II_R_D rfl) rfl rfl (Nat.le_of_eq rfl) (by rw [hml]; rfl) (by decide) (by decide) (W.Pure.ok P455.chv) at_165 rfl ?_
    intro v456 T456 h456 L456 q456 P456
    obtain ⟨rfl, rfl, rfl⟩ := q456
    show W.Go p.tables e below _ (T456.setTop (mkF m 168 #[.val (.int pr), .val (.int vl), .val (.int fc), .val (.int dn), .val (.int (8 : Int32)), .val (.int (1 : Int32)), .val (.ref t450), .val (.ref t451), .val (.int (1 : Int32)), .val (.ref x455), .unset, .unset, .unset] [(.double (FP.i2d (own_db dn 0))), (.int (0 : Int32)), (.ref x455)]))
    refine P456.stD (pc1 := 169) (i := 0) V455 (by decide) (by decide) (Nat.le_of_ble_eq_true rfl) rfl (Or.inr (by rw [g455]; exact P454.sz)) (Safe.arv P456.al V455 (by decide)) at_168 rfl ?_
    intro T457 h457 P457 W457 V457
    have Vd457 := Vd455.other W457 hdz
    have Vf457 := Vf455.other W457 hfz
    refine W.g_aload (pc1 := 171) P457.q at_169 rfl rfl rfl ?_
    refine W.g_iconst (pc1 := 172) (v := (1 : Int32)) P457.q at_171 (by decide) rfl ?_
    refine W.g_iloadN (pc1 := 173) P457.q at_172 rfl rfl ?_
    refine W.g_iconst (pc1 := 174) (v := (1 : Int32)) P457.q at_173 (by decide) rfl ?_
    refine P457.callS (pc1 := 177) (wd hw (k := 10) rfl) (wd hw (k := 11) rfl) (wd hw (k := 2) rfl) (wd hw (k := 12) rfl) (by decide) (W.MetN.pay (W := 2) (c_dv l Z a0 hw dn 1 h457) P457 (wd hw (k := 12) rfl) (wd hw (k := 2) rfl) (by decide) (by decide)) (argsL := [(.int dn), (.int (1 : Int32))]) (st0 := [(.int (1 : Int32)), (.ref x455)]) (lenOf pd_II_R_D rfl) rfl rfl (Nat.le_of_eq rfl) (by rw [hml]; rfl) (by decide) (by decide) (W.Pure.ok P457.chv) at_174 rfl ?_
    intro v458 T458 h458 L458 q458 P458
    obtain ⟨rfl, rfl, rfl⟩ := q458
    show W.Go p.tables e below _ (T458.setTop (mkF m 177 #[.val (.int pr), .val (.int vl), .val (.int fc), .val (.int dn), .val (.int (8 : Int32)), .val (.int (1 : Int32)), .val (.ref t450), .val (.ref t451), .val (.int (1 : Int32)), .val (.ref x455), .unset, .unset, .unset] [(.double (FP.i2d (own_db dn 1))), (.int (1 : Int32)), (.ref x455)]))
    refine P458.stD (pc1 := 178) (i := 1) V457 (by decide) (by decide) (Nat.le_of_ble_eq_true rfl) rfl (Or.inr (by rw [g455]; exact P454.sz)) (Safe.arv P458.al V457 (by decide)) at_177 rfl ?_
    intro T459 h459 P459 W459 V459
    have Vd459 := Vd457.other W459 hdz
    have Vf459 := Vf457.other W459 hfz
    refine W.g_aload (pc1 := 180) P459.q at_178 rfl rfl rfl ?_
    refine W.g_iconst (pc1 := 181) (v := (2 : Int32)) P459.q at_180 (by decide) rfl ?_
    refine W.g_iloadN (pc1 := 182) P459.q at_181 rfl rfl ?_
    refine W.g_iconst (pc1 := 183) (v := (2 : Int32)) P459.q at_182 (by decide) rfl ?_
    refine P459.callS (pc1 := 186) (wd hw (k := 10) rfl) (wd hw (k := 11) rfl) (wd hw (k := 2) rfl) (wd hw (k := 12) rfl) (by decide) (W.MetN.pay (W := 2) (c_dv l Z a0 hw dn 2 h459) P459 (wd hw (k := 12) rfl) (wd hw (k := 2) rfl) (by decide) (by decide)) (argsL := [(.int dn), (.int (2 : Int32))]) (st0 := [(.int (2 : Int32)), (.ref x455)]) (lenOf pd_II_R_D rfl) rfl rfl (Nat.le_of_eq rfl) (by rw [hml]; rfl) (by decide) (by decide) (W.Pure.ok P459.chv) at_183 rfl ?_
    intro v460 T460 h460 L460 q460 P460
    obtain ⟨rfl, rfl, rfl⟩ := q460
    show W.Go p.tables e below _ (T460.setTop (mkF m 186 #[.val (.int pr), .val (.int vl), .val (.int fc), .val (.int dn), .val (.int (8 : Int32)), .val (.int (1 : Int32)), .val (.ref t450), .val (.ref t451), .val (.int (1 : Int32)), .val (.ref x455), .unset, .unset, .unset] [(.double (FP.i2d (own_db dn 2))), (.int (2 : Int32)), (.ref x455)]))
    refine P460.stD (pc1 := 187) (i := 2) V459 (by decide) (by decide) (Nat.le_of_ble_eq_true rfl) rfl (Or.inr (by rw [g455]; exact P454.sz)) (Safe.arv P460.al V459 (by decide)) at_186 rfl ?_
    intro T461 h461 P461 W461 V461
    have Vd461 := Vd459.other W461 hdz
    have Vf461 := Vf459.other W461 hfz
    refine W.g_aload (pc1 := 189) P461.q at_187 rfl rfl rfl ?_
    refine W.g_iconst (pc1 := 190) (v := (3 : Int32)) P461.q at_189 (by decide) rfl ?_
    refine W.g_iloadN (pc1 := 191) P461.q at_190 rfl rfl ?_
    refine W.g_iconst (pc1 := 192) (v := (3 : Int32)) P461.q at_191 (by decide) rfl ?_
    refine P461.callS (pc1 := 195) (wd hw (k := 10) rfl) (wd hw (k := 11) rfl) (wd hw (k := 2) rfl) (wd hw (k := 12) rfl) (by decide) (W.MetN.pay (W := 2) (c_dv l Z a0 hw dn 3 h461) P461 (wd hw (k := 12) rfl) (wd hw (k := 2) rfl) (by decide) (by decide)) (argsL := [(.int dn), (.int (3 : Int32))]) (st0 := [(.int (3 : Int32)), (.ref x455)]) (lenOf pd_II_R_D rfl) rfl rfl (Nat.le_of_eq rfl) (by rw [hml]; rfl) (by decide) (by decide) (W.Pure.ok P461.chv) at_192 rfl ?_
    intro v462 T462 h462 L462 q462 P462
    obtain ⟨rfl, rfl, rfl⟩ := q462
    show W.Go p.tables e below _ (T462.setTop (mkF m 195 #[.val (.int pr), .val (.int vl), .val (.int fc), .val (.int dn), .val (.int (8 : Int32)), .val (.int (1 : Int32)), .val (.ref t450), .val (.ref t451), .val (.int (1 : Int32)), .val (.ref x455), .unset, .unset, .unset] [(.double (FP.i2d (own_db dn 3))), (.int (3 : Int32)), (.ref x455)]))
    refine P462.stD (pc1 := 196) (i := 3) V461 (by decide) (by decide) (Nat.le_of_ble_eq_true rfl) rfl (Or.inr (by rw [g455]; exact P454.sz)) (Safe.arv P462.al V461 (by decide)) at_195 rfl ?_
    intro T463 h463 P463 W463 V463
    have Vd463 := Vd461.other W463 hdz
    have Vf463 := Vf461.other W463 hfz
    refine W.g_iloadN (pc1 := 197) P463.q at_196 rfl rfl ?_
    refine W.g_i2d (pc1 := 198) P463.q at_197 rfl ?_
    refine W.g_dstore (pc1 := 200) (ls2 := #[.val (.int pr), .val (.int vl), .val (.int fc), .val (.int dn), .val (.int (8 : Int32)), .val (.int (1 : Int32)), .val (.ref t450), .val (.ref t451), .val (.int (1 : Int32)), .val (.ref x455), .val (.double (FP.i2d fc)), .second, .unset]) P463.q at_198 rfl rfl ?_
    refine P463.newO (pc1 := 203) (wd hw (k := 13) rfl) (wd hw (k := 14) rfl) (wd hw (k := 15) rfl) (by decide) (by decide) at_200 rfl ?_
    intro T464 h464 x464 g464 P464 E464 A464 D464 U464
    refine W.g_dup (pc1 := 204) P464.q at_203 rfl rfl ?_
    refine W.g_aload (pc1 := 206) P464.q at_204 rfl rfl rfl ?_
    refine W.g_aload (pc1 := 208) P464.q at_206 rfl rfl rfl ?_
    have Ndimensions : Fld Z h464 x464 "com/example/intent_search/intentsearch/rank/CategoryVector" "dimensions" "[I" .null := D464 (Or.inr (wd hw (k := 23) rfl)) (ty := (.array .int)) (by decide)
    have Nvalues : Fld Z h464 x464 "com/example/intent_search/intentsearch/rank/CategoryVector" "values" "[F" .null := D464 (Or.inr (wd hw (k := 25) rfl)) (ty := (.array .float)) (by decide)
    refine P464.callN (pc1 := 211) rfl (wd hw (k := 16) rfl) (wd hw (k := 17) rfl) (wd hw (k := 18) rfl) (by decide) (W.MetN.pay (W := 1) (c_cv l Z a0 hw x464 t450 t451 h464 A464 _ Ndimensions _ Nvalues) P464 (wd hw (k := 18) rfl) (wd hw (k := 15) rfl) (by decide) (by decide)) (argsL := [(.ref t450), (.ref t451)]) (st0 := [(.ref x464)]) (lenOf pd_AIAF_R_V rfl) rfl rfl (Nat.le_of_eq rfl) (by rw [hml]; rfl) (by decide) (by decide) (fun _ _ _ q => ⟨q.2.1.up P464.sz (allS (Or.inr (by rw [g464]; exact P463.sz)) all0), CHr.keep q.2.2.1 (sfS (Safe.exa P464.al A464 (by decide) (by decide)) sf0) P464.chv⟩) at_208 rfl ?_
    intro v465 T465 h465 L465 q465 P465
    obtain ⟨rfl, f465, K465, A465, Fd465, Fv465⟩ := q465
    show W.Go p.tables e below _ (T465.setTop (mkF m 211 #[.val (.int pr), .val (.int vl), .val (.int fc), .val (.int dn), .val (.int (8 : Int32)), .val (.int (1 : Int32)), .val (.ref t450), .val (.ref t451), .val (.int (1 : Int32)), .val (.ref x455), .val (.double (FP.i2d fc)), .second, .unset] [(.ref x464)]))
    have Vdq := (Vd463.ext E464).keep K465 (ninS (Ne.symm (Exa.neArv A464 (Vd463.ext E464) (wd hw (k := 14) rfl))) nin0)
    have Vfq := (Vf463.ext E464).keep K465 (ninS (Ne.symm (Exa.neArv A464 (Vf463.ext E464) (wd hw (k := 14) rfl))) nin0)
    have Vzq := (V463.ext E464).keep K465 (ninS (Ne.symm (Exa.neArv A464 (V463.ext E464) (wd hw (k := 14) rfl))) nin0)
    have hxz : x464 ≠ x455 := Exa.neArv A465 Vzq (wd hw (k := 14) rfl)
    refine W.g_astore (pc1 := 213) (ls2 := #[.val (.int pr), .val (.int vl), .val (.int fc), .val (.int dn), .val (.int (8 : Int32)), .val (.int (1 : Int32)), .val (.ref t450), .val (.ref t451), .val (.int (1 : Int32)), .val (.ref x455), .val (.double (FP.i2d fc)), .second, .val (.ref x464)]) P465.q at_211 rfl rfl rfl ?_
    refine W.g_aload (pc1 := 215) P465.q at_213 rfl rfl rfl ?_
    refine W.g_aload (pc1 := 217) P465.q at_215 rfl rfl rfl ?_
    refine W.g_dload (pc1 := 219) P465.q at_217 rfl rfl ?_
    have ok0 := own_one (f := fc) (own_dbb dn 0) (own_vbb vl 0)
    have ok1 := own_one (f := fc) (own_dbb dn 1) (own_vbb vl 1)
    have ok2 := own_one (f := fc) (own_dbb dn 2) (own_vbb vl 2)
    have ok3 := own_one (f := fc) (own_dbb dn 3) (own_vbb vl 3)
    refine P465.callV (pc1 := 222) A465 (wd hw (k := 26) rfl) (wd hw (k := 27) rfl) (wd hw (k := 29) rfl) (wd hw (k := 28) rfl) (notFace_of_selects (args := #[]) (mvT P465.hz (wd hw (k := 29) rfl))) (by decide) (W.MetN.pay (W := 0) (c_add8 l Z a0 hw x464 t450 t451 x455 _ _ _ (FP.i2d (own_db dn 0)) (FP.i2d (own_db dn 1)) (FP.i2d (own_db dn 2)) (FP.i2d (own_db dn 3)) (FP.i2d fc) (FP.i2f (own_vb vl 3)) ok3.1 ok3.2.1 ok3.2.2 h465 A465 Fd465 Fv465 Vdq Vfq Vzq hdz hfz hxz) P465 (wd hw (k := 30) rfl) (wd hw (k := 15) rfl) (by decide) (by decide)) (argsL := [(.ref x455), (.double (FP.i2d fc))]) (st0 := []) (lenOf pd_ADD_R_V rfl) rfl rfl (Nat.le_of_eq rfl) (by rw [hml]; rfl) (by decide) (by decide) (fun _ _ _ q => ⟨q.2.1.up P465.sz (allS (Or.inr (by rw [g455]; exact P454.sz)) all0), CHr.keep q.2.2.1 (sfS (Safe.arv P465.al Vzq (by decide)) sf0) P465.chv⟩) at_219 rfl ?_
    intro v466 T466 h466 L466 q466 P466
    obtain ⟨rfl, f466, K466, V466⟩ := q466
    show W.Go p.tables e below _ (T466.setTop (mkF m 222 #[.val (.int pr), .val (.int vl), .val (.int fc), .val (.int dn), .val (.int (8 : Int32)), .val (.int (1 : Int32)), .val (.ref t450), .val (.ref t451), .val (.int (1 : Int32)), .val (.ref x455), .val (.double (FP.i2d fc)), .second, .val (.ref x464)] []))
    refine W.g_aload (pc1 := 224) P466.q at_222 rfl rfl rfl ?_
    refine W.g_iconst (pc1 := 225) (v := (0 : Int32)) P466.q at_224 (by decide) rfl ?_
    refine W.g_iload (pc1 := 227) P466.q at_225 rfl rfl ?_
    refine W.g_iloadN (pc1 := 228) P466.q at_227 rfl rfl ?_
    refine W.g_iloadN (pc1 := 229) P466.q at_228 rfl rfl ?_
    refine W.g_dload (pc1 := 231) P466.q at_229 rfl rfl ?_
    refine P466.callS (pc1 := 234) (wd hw (k := 31) rfl) (wd hw (k := 32) rfl) (wd hw (k := 2) rfl) (wd hw (k := 33) rfl) (by decide) (W.MetN.pay (W := 0) (c_chk00 l Z a0 hw x455 _ _ _ _ _ (FP.i2d fc) 8 vl dn (by decide) own_self h466 V466) P466 (wd hw (k := 33) rfl) (wd hw (k := 2) rfl) (by decide) (by decide)) (argsL := [(.ref x455), (.int (0 : Int32)), (.int (8 : Int32)), (.int vl), (.int dn), (.double (FP.i2d fc))]) (st0 := []) (lenOf pd_ADIIIID_R_Z rfl) rfl rfl (Nat.le_of_eq rfl) (by rw [hml]; rfl) (by decide) (by decide) (W.Pure.ok P466.chv) at_231 rfl ?_
    intro v467 T467 h467 L467 q467 P467
    obtain ⟨rfl, rfl, rfl⟩ := q467
    show W.Go p.tables e below _ (T467.setTop (mkF m 234 #[.val (.int pr), .val (.int vl), .val (.int fc), .val (.int dn), .val (.int (8 : Int32)), .val (.int (1 : Int32)), .val (.ref t450), .val (.ref t451), .val (.int (1 : Int32)), .val (.ref x455), .val (.double (FP.i2d fc)), .second, .val (.ref x464)] [(.int (1 : Int32))]))
    refine W.g_ifN (pc2 := 237) P467.q at_234 rfl (by decide) ?_
    refine W.g_aload (pc1 := 239) P467.q at_237 rfl rfl rfl ?_
    refine W.g_iconst (pc1 := 240) (v := (1 : Int32)) P467.q at_239 (by decide) rfl ?_
    refine W.g_iload (pc1 := 242) P467.q at_240 rfl rfl ?_
    refine W.g_iloadN (pc1 := 243) P467.q at_242 rfl rfl ?_
    refine W.g_iloadN (pc1 := 244) P467.q at_243 rfl rfl ?_
    refine W.g_dload (pc1 := 246) P467.q at_244 rfl rfl ?_
    refine P467.callS (pc1 := 249) (wd hw (k := 31) rfl) (wd hw (k := 32) rfl) (wd hw (k := 2) rfl) (wd hw (k := 33) rfl) (by decide) (W.MetN.pay (W := 0) (c_chk10 l Z a0 hw x455 _ _ _ _ _ (FP.i2d fc) 8 vl dn (by decide) own_self h466 V466) P467 (wd hw (k := 33) rfl) (wd hw (k := 2) rfl) (by decide) (by decide)) (argsL := [(.ref x455), (.int (1 : Int32)), (.int (8 : Int32)), (.int vl), (.int dn), (.double (FP.i2d fc))]) (st0 := []) (lenOf pd_ADIIIID_R_Z rfl) rfl rfl (Nat.le_of_eq rfl) (by rw [hml]; rfl) (by decide) (by decide) (W.Pure.ok P467.chv) at_246 rfl ?_
    intro v468 T468 h468 L468 q468 P468
    obtain ⟨rfl, rfl, rfl⟩ := q468
    show W.Go p.tables e below _ (T468.setTop (mkF m 249 #[.val (.int pr), .val (.int vl), .val (.int fc), .val (.int dn), .val (.int (8 : Int32)), .val (.int (1 : Int32)), .val (.ref t450), .val (.ref t451), .val (.int (1 : Int32)), .val (.ref x455), .val (.double (FP.i2d fc)), .second, .val (.ref x464)] [(.int (1 : Int32))]))
    refine W.g_ifN (pc2 := 252) P468.q at_249 rfl (by decide) ?_
    refine W.g_aload (pc1 := 254) P468.q at_252 rfl rfl rfl ?_
    refine W.g_iconst (pc1 := 255) (v := (2 : Int32)) P468.q at_254 (by decide) rfl ?_
    refine W.g_iload (pc1 := 257) P468.q at_255 rfl rfl ?_
    refine W.g_iloadN (pc1 := 258) P468.q at_257 rfl rfl ?_
    refine W.g_iloadN (pc1 := 259) P468.q at_258 rfl rfl ?_
    refine W.g_dload (pc1 := 261) P468.q at_259 rfl rfl ?_
    refine P468.callS (pc1 := 264) (wd hw (k := 31) rfl) (wd hw (k := 32) rfl) (wd hw (k := 2) rfl) (wd hw (k := 33) rfl) (by decide) (W.MetN.pay (W := 0) (c_chk20 l Z a0 hw x455 _ _ _ _ _ (FP.i2d fc) 8 vl dn (by decide) own_self h466 V466) P468 (wd hw (k := 33) rfl) (wd hw (k := 2) rfl) (by decide) (by decide)) (argsL := [(.ref x455), (.int (2 : Int32)), (.int (8 : Int32)), (.int vl), (.int dn), (.double (FP.i2d fc))]) (st0 := []) (lenOf pd_ADIIIID_R_Z rfl) rfl rfl (Nat.le_of_eq rfl) (by rw [hml]; rfl) (by decide) (by decide) (W.Pure.ok P468.chv) at_261 rfl ?_
    intro v469 T469 h469 L469 q469 P469
    obtain ⟨rfl, rfl, rfl⟩ := q469
    show W.Go p.tables e below _ (T469.setTop (mkF m 264 #[.val (.int pr), .val (.int vl), .val (.int fc), .val (.int dn), .val (.int (8 : Int32)), .val (.int (1 : Int32)), .val (.ref t450), .val (.ref t451), .val (.int (1 : Int32)), .val (.ref x455), .val (.double (FP.i2d fc)), .second, .val (.ref x464)] [(.int (1 : Int32))]))
    refine W.g_ifN (pc2 := 267) P469.q at_264 rfl (by decide) ?_
    refine W.g_aload (pc1 := 269) P469.q at_267 rfl rfl rfl ?_
    refine W.g_iconst (pc1 := 270) (v := (3 : Int32)) P469.q at_269 (by decide) rfl ?_
    refine W.g_iload (pc1 := 272) P469.q at_270 rfl rfl ?_
    refine W.g_iloadN (pc1 := 273) P469.q at_272 rfl rfl ?_
    refine W.g_iloadN (pc1 := 274) P469.q at_273 rfl rfl ?_
    refine W.g_dload (pc1 := 276) P469.q at_274 rfl rfl ?_
    refine P469.callS (pc1 := 279) (wd hw (k := 31) rfl) (wd hw (k := 32) rfl) (wd hw (k := 2) rfl) (wd hw (k := 33) rfl) (by decide) (W.MetN.pay (W := 0) (c_chk31 l Z a0 hw x455 _ _ _ _ _ (FP.i2d fc) 8 vl dn (by decide) ok3.1 ok3.2.1 ok3.2.2 (dcmpV_self ok3.2.2 .l) h466 V466) P469 (wd hw (k := 33) rfl) (wd hw (k := 2) rfl) (by decide) (by decide)) (argsL := [(.ref x455), (.int (3 : Int32)), (.int (8 : Int32)), (.int vl), (.int dn), (.double (FP.i2d fc))]) (st0 := []) (lenOf pd_ADIIIID_R_Z rfl) rfl rfl (Nat.le_of_eq rfl) (by rw [hml]; rfl) (by decide) (by decide) (W.Pure.ok P469.chv) at_276 rfl ?_
    intro v470 T470 h470 L470 q470 P470
    obtain ⟨rfl, rfl, rfl⟩ := q470
    show W.Go p.tables e below _ (T470.setTop (mkF m 279 #[.val (.int pr), .val (.int vl), .val (.int fc), .val (.int dn), .val (.int (8 : Int32)), .val (.int (1 : Int32)), .val (.ref t450), .val (.ref t451), .val (.int (1 : Int32)), .val (.ref x455), .val (.double (FP.i2d fc)), .second, .val (.ref x464)] [(.int (1 : Int32))]))
    refine W.g_ifN (pc2 := 282) P470.q at_279 rfl (by decide) ?_
    refine W.g_iconst (pc1 := 283) (v := (1 : Int32)) P470.q at_282 (by decide) rfl ?_
    refine W.g_goto (pc1 := 287) P470.q at_283 (by decide) rfl ?_
    exact P470.retVN hlk hret (Or.inl rfl) at_287 (by decide) (by decide) ⟨rfl, P470.fr⟩
  · show W.Go p.tables e below _ (s₁.setTop (mkF m 4 #[.val (.int pr), .val (.int vl), .val (.int fc), .val (.int dn), .unset, .unset, .unset, .unset, .unset, .unset, .unset, .unset, .unset] [(.int (9 : Int32))]))
    refine W.g_istore (pc1 := 6) (ls2 := #[.val (.int pr), .val (.int vl), .val (.int fc), .val (.int dn), .val (.int (9 : Int32)), .unset, .unset, .unset, .unset, .unset, .unset, .unset, .unset]) P0.q at_4 rfl rfl ?_
    refine W.g_iload (pc1 := 8) P0.q at_6 rfl rfl ?_
    refine W.g_iconst (pc1 := 9) (v := (1 : Int32)) P0.q at_8 (by decide) rfl ?_
    refine W.g_iand (pc1 := 10) P0.q at_9 rfl ?_
    refine W.g_iload (pc1 := 12) P0.q at_10 rfl rfl ?_
    refine W.g_iconst (pc1 := 13) (v := (1 : Int32)) P0.q at_12 (by decide) rfl ?_
    refine W.g_ishr (pc1 := 14) P0.q at_13 rfl ?_
    refine W.g_iconst (pc1 := 15) (v := (1 : Int32)) P0.q at_14 (by decide) rfl ?_
    refine W.g_iand (pc1 := 16) P0.q at_15 rfl ?_
    refine W.g_iadd (pc1 := 17) P0.q at_16 rfl ?_
    refine W.g_iload (pc1 := 19) P0.q at_17 rfl rfl ?_
    refine W.g_iconst (pc1 := 20) (v := (2 : Int32)) P0.q at_19 (by decide) rfl ?_
    refine W.g_ishr (pc1 := 21) P0.q at_20 rfl ?_
    refine W.g_iconst (pc1 := 22) (v := (1 : Int32)) P0.q at_21 (by decide) rfl ?_
    refine W.g_iand (pc1 := 23) P0.q at_22 rfl ?_
    refine W.g_iadd (pc1 := 24) P0.q at_23 rfl ?_
    refine W.g_iload (pc1 := 26) P0.q at_24 rfl rfl ?_
    refine W.g_iconst (pc1 := 27) (v := (3 : Int32)) P0.q at_26 (by decide) rfl ?_
    refine W.g_ishr (pc1 := 28) P0.q at_27 rfl ?_
    refine W.g_iconst (pc1 := 29) (v := (1 : Int32)) P0.q at_28 (by decide) rfl ?_
    refine W.g_iand (pc1 := 30) P0.q at_29 rfl ?_
    refine W.g_iadd (pc1 := 31) P0.q at_30 rfl ?_
    rw [show (((((9 : Int32) &&& (1 : Int32)) + (((9 : Int32) >>> ((1 : Int32) &&& 31)) &&& (1 : Int32))) + (((9 : Int32) >>> ((2 : Int32) &&& 31)) &&& (1 : Int32))) + (((9 : Int32) >>> ((3 : Int32) &&& 31)) &&& (1 : Int32))) = (2 : Int32) from by decide]
    refine W.g_istore (pc1 := 33) (ls2 := #[.val (.int pr), .val (.int vl), .val (.int fc), .val (.int dn), .val (.int (9 : Int32)), .val (.int (2 : Int32)), .unset, .unset, .unset, .unset, .unset, .unset, .unset]) P0.q at_31 rfl rfl ?_
    refine W.g_iload (pc1 := 35) P0.q at_33 rfl rfl ?_
    refine P0.callS (pc1 := 38) (wd hw (k := 0) rfl) (wd hw (k := 1) rfl) (wd hw (k := 2) rfl) (wd hw (k := 3) rfl) (by decide) (W.MetN.pay (W := 0) (c_ni2 l Z a0 hw h0) P0 (wd hw (k := 3) rfl) (wd hw (k := 2) rfl) (by decide) (by decide)) (argsL := [(.int (2 : Int32))]) (st0 := []) (lenOf pd_I_R_AI rfl) rfl rfl (Nat.le_of_eq rfl) (by rw [hml]; rfl) (by decide) (by decide) (fun _ _ _ q => by obtain ⟨_, _, _, q2, q3, _⟩ := q; exact ⟨q2.up P0.sz all0, CHr.keep (W.Ext.toKeep q3 []) sf0 P0.chv⟩) at_35 rfl ?_
    intro v471 T471 h471 L471 q471 P471
    obtain ⟨t471, k471, rfl, f471, E471, g471, V471⟩ := q471
    show W.Go p.tables e below _ (T471.setTop (mkF m 38 #[.val (.int pr), .val (.int vl), .val (.int fc), .val (.int dn), .val (.int (9 : Int32)), .val (.int (2 : Int32)), .unset, .unset, .unset, .unset, .unset, .unset, .unset] [(.ref t471)]))
    refine W.g_astore (pc1 := 40) (ls2 := #[.val (.int pr), .val (.int vl), .val (.int fc), .val (.int dn), .val (.int (9 : Int32)), .val (.int (2 : Int32)), .val (.ref t471), .unset, .unset, .unset, .unset, .unset, .unset]) P471.q at_38 rfl rfl rfl ?_
    refine W.g_iload (pc1 := 42) P471.q at_40 rfl rfl ?_
    refine P471.callS (pc1 := 45) (wd hw (k := 5) rfl) (wd hw (k := 6) rfl) (wd hw (k := 2) rfl) (wd hw (k := 7) rfl) (by decide) (W.MetN.pay (W := 0) (c_nf2 l Z a0 hw h471) P471 (wd hw (k := 7) rfl) (wd hw (k := 2) rfl) (by decide) (by decide)) (argsL := [(.int (2 : Int32))]) (st0 := []) (lenOf pd_I_R_AF rfl) rfl rfl (Nat.le_of_eq rfl) (by rw [hml]; rfl) (by decide) (by decide) (fun _ _ _ q => by obtain ⟨_, _, _, q2, q3, _⟩ := q; exact ⟨q2.up P471.sz all0, CHr.keep (W.Ext.toKeep q3 []) sf0 P471.chv⟩) at_42 rfl ?_
    intro v472 T472 h472 L472 q472 P472
    obtain ⟨t472, k472, rfl, f472, E472, g472, V472⟩ := q472
    show W.Go p.tables e below _ (T472.setTop (mkF m 45 #[.val (.int pr), .val (.int vl), .val (.int fc), .val (.int dn), .val (.int (9 : Int32)), .val (.int (2 : Int32)), .val (.ref t471), .unset, .unset, .unset, .unset, .unset, .unset] [(.ref t472)]))
    have hdf : t471 ≠ t472 := Nat.ne_of_lt (Nat.lt_of_lt_of_le V471.lt g472)
    have Vd0 := V471.ext E472
    refine W.g_astore (pc1 := 47) (ls2 := #[.val (.int pr), .val (.int vl), .val (.int fc), .val (.int dn), .val (.int (9 : Int32)), .val (.int (2 : Int32)), .val (.ref t471), .val (.ref t472), .unset, .unset, .unset, .unset, .unset]) P472.q at_45 rfl rfl rfl ?_
    refine W.g_iconst (pc1 := 48) (v := (0 : Int32)) P472.q at_47 (by decide) rfl ?_
    refine W.g_istore (pc1 := 50) (ls2 := #[.val (.int pr), .val (.int vl), .val (.int fc), .val (.int dn), .val (.int (9 : Int32)), .val (.int (2 : Int32)), .val (.ref t471), .val (.ref t472), .val (.int (0 : Int32)), .unset, .unset, .unset, .unset]) P472.q at_48 rfl rfl ?_
    refine W.g_iload (pc1 := 52) P472.q at_50 rfl rfl ?_
    refine W.g_iconst (pc1 := 53) (v := (1 : Int32)) P472.q at_52 (by decide) rfl ?_
    refine W.g_iand (pc1 := 54) P472.q at_53 rfl ?_
    refine W.g_ifN (pc2 := 57) P472.q at_54 rfl (by decide) ?_
    refine W.g_aload (pc1 := 59) P472.q at_57 rfl rfl rfl ?_
    refine W.g_iload (pc1 := 61) P472.q at_59 rfl rfl ?_
    refine W.g_iconst (pc1 := 62) (v := (0 : Int32)) P472.q at_61 (by decide) rfl ?_
    refine P472.stI (pc1 := 63) (i := 0) Vd0 (by decide) (by decide) (Nat.le_of_ble_eq_true rfl) rfl (Or.inr (Nat.le_trans P0.sz g471)) (Safe.arv P472.al Vd0 (by decide)) at_62 rfl ?_
    intro T473 h473 P473 W473 V473
    have Vf473 := V472.other W473 (Ne.symm hdf)
    refine W.g_aload (pc1 := 65) P473.q at_63 rfl rfl rfl ?_
    refine W.g_iload (pc1 := 67) P473.q at_65 rfl rfl ?_
    refine W.g_iloadN (pc1 := 68) P473.q at_67 rfl rfl ?_
    refine W.g_iconst (pc1 := 69) (v := (0 : Int32)) P473.q at_68 (by decide) rfl ?_
    refine P473.callS (pc1 := 72) (wd hw (k := 34) rfl) (wd hw (k := 35) rfl) (wd hw (k := 2) rfl) (wd hw (k := 36) rfl) (by decide) (W.MetN.pay (W := 2) (c_val l Z a0 hw vl 0 h473) P473 (wd hw (k := 36) rfl) (wd hw (k := 2) rfl) (by decide) (by decide)) (argsL := [(.int vl), (.int (0 : Int32))]) (st0 := [(.int (0 : Int32)), (.ref t472)]) (lenOf pd_II_R_F rfl) rfl rfl (Nat.le_of_eq rfl) (by rw [hml]; rfl) (by decide) (by decide) (W.Pure.ok P473.chv) at_69 rfl ?_
    intro v474 T474 h474 L474 q474 P474
    obtain ⟨rfl, rfl, rfl⟩ := q474
    show W.Go p.tables e below _ (T474.setTop (mkF m 72 #[.val (.int pr), .val (.int vl), .val (.int fc), .val (.int dn), .val (.int (9 : Int32)), .val (.int (2 : Int32)), .val (.ref t471), .val (.ref t472), .val (.int (0 : Int32)), .unset, .unset, .unset, .unset] [(.float (FP.i2f (own_vb vl 0))), (.int (0 : Int32)), (.ref t472)]))
    refine P474.stF (pc1 := 73) (i := 0) Vf473 (by decide) (by decide) (Nat.le_of_ble_eq_true rfl) rfl (Or.inr (Nat.le_trans P471.sz g472)) (Safe.arv P474.al Vf473 (by decide)) at_72 rfl ?_
    intro T475 h475 P475 W475 V475
    have Vd475 := V473.other W475 hdf
    refine W.g_iinc (pc1 := 76) (ls2 := #[.val (.int pr), .val (.int vl), .val (.int fc), .val (.int dn), .val (.int (9 : Int32)), .val (.int (2 : Int32)), .val (.ref t471), .val (.ref t472), .val (.int ((0 : Int32) + Int32.ofInt 1)), .unset, .unset, .unset, .unset]) P475.q at_73 rfl rfl rfl ?_
    show W.Go p.tables e below _ (T475.setTop (mkF m 76 #[.val (.int pr), .val (.int vl), .val (.int fc), .val (.int dn), .val (.int (9 : Int32)), .val (.int (2 : Int32)), .val (.ref t471), .val (.ref t472), .val (.int (1 : Int32)), .unset, .unset, .unset, .unset] []))
    refine W.g_iload (pc1 := 78) P475.q at_76 rfl rfl ?_
    refine W.g_iconst (pc1 := 79) (v := (2 : Int32)) P475.q at_78 (by decide) rfl ?_
    refine W.g_iand (pc1 := 80) P475.q at_79 rfl ?_
    refine W.g_ifY (pc1 := 102) P475.q at_80 (by decide) rfl (by decide) ?_
    refine W.g_iload (pc1 := 104) P475.q at_102 rfl rfl ?_
    refine W.g_iconst (pc1 := 105) (v := (4 : Int32)) P475.q at_104 (by decide) rfl ?_
    refine W.g_iand (pc1 := 106) P475.q at_105 rfl ?_
    refine W.g_ifY (pc1 := 128) P475.q at_106 (by decide) rfl (by decide) ?_
    refine W.g_iload (pc1 := 130) P475.q at_128 rfl rfl ?_
    refine W.g_bipush (pc1 := 132) (v := (8 : Int32)) P475.q at_130 (by decide) rfl ?_
    refine W.g_iand (pc1 := 133) P475.q at_132 rfl ?_
    refine W.g_ifN (pc2 := 136) P475.q at_133 rfl (by decide) ?_
    refine W.g_aload (pc1 := 138) P475.q at_136 rfl rfl rfl ?_
    refine W.g_iload (pc1 := 140) P475.q at_138 rfl rfl ?_
    refine W.g_iconst (pc1 := 141) (v := (3 : Int32)) P475.q at_140 (by decide) rfl ?_
    refine P475.stI (pc1 := 142) (i := 1) Vd475 (by decide) (by decide) (Nat.le_of_ble_eq_true rfl) rfl (Or.inr (Nat.le_trans P0.sz g471)) (Safe.arv P475.al Vd475 (by decide)) at_141 rfl ?_
    intro T476 h476 P476 W476 V476
    have Vf476 := V475.other W476 (Ne.symm hdf)
    refine W.g_aload (pc1 := 144) P476.q at_142 rfl rfl rfl ?_
    refine W.g_iload (pc1 := 146) P476.q at_144 rfl rfl ?_
    refine W.g_iloadN (pc1 := 147) P476.q at_146 rfl rfl ?_
    refine W.g_iconst (pc1 := 148) (v := (3 : Int32)) P476.q at_147 (by decide) rfl ?_
    refine P476.callS (pc1 := 151) (wd hw (k := 34) rfl) (wd hw (k := 35) rfl) (wd hw (k := 2) rfl) (wd hw (k := 36) rfl) (by decide) (W.MetN.pay (W := 2) (c_val l Z a0 hw vl 3 h476) P476 (wd hw (k := 36) rfl) (wd hw (k := 2) rfl) (by decide) (by decide)) (argsL := [(.int vl), (.int (3 : Int32))]) (st0 := [(.int (1 : Int32)), (.ref t472)]) (lenOf pd_II_R_F rfl) rfl rfl (Nat.le_of_eq rfl) (by rw [hml]; rfl) (by decide) (by decide) (W.Pure.ok P476.chv) at_148 rfl ?_
    intro v477 T477 h477 L477 q477 P477
    obtain ⟨rfl, rfl, rfl⟩ := q477
    show W.Go p.tables e below _ (T477.setTop (mkF m 151 #[.val (.int pr), .val (.int vl), .val (.int fc), .val (.int dn), .val (.int (9 : Int32)), .val (.int (2 : Int32)), .val (.ref t471), .val (.ref t472), .val (.int (1 : Int32)), .unset, .unset, .unset, .unset] [(.float (FP.i2f (own_vb vl 3))), (.int (1 : Int32)), (.ref t472)]))
    refine P477.stF (pc1 := 152) (i := 1) Vf476 (by decide) (by decide) (Nat.le_of_ble_eq_true rfl) rfl (Or.inr (Nat.le_trans P471.sz g472)) (Safe.arv P477.al Vf476 (by decide)) at_151 rfl ?_
    intro T478 h478 P478 W478 V478
    have Vd478 := V476.other W478 hdf
    refine W.g_iinc (pc1 := 155) (ls2 := #[.val (.int pr), .val (.int vl), .val (.int fc), .val (.int dn), .val (.int (9 : Int32)), .val (.int (2 : Int32)), .val (.ref t471), .val (.ref t472), .val (.int ((1 : Int32) + Int32.ofInt 1)), .unset, .unset, .unset, .unset]) P478.q at_152 rfl rfl rfl ?_
    show W.Go p.tables e below _ (T478.setTop (mkF m 155 #[.val (.int pr), .val (.int vl), .val (.int fc), .val (.int dn), .val (.int (9 : Int32)), .val (.int (2 : Int32)), .val (.ref t471), .val (.ref t472), .val (.int (2 : Int32)), .unset, .unset, .unset, .unset] []))
    refine W.g_iconst (pc1 := 156) (v := (4 : Int32)) P478.q at_155 (by decide) rfl ?_
    refine P478.newP (pc1 := 158) (cap := 4) (wd hw (k := 9) rfl) (by decide) (by decide) (by decide) (by decide) (by decide) at_156 rfl ?_
    intro T479 h479 x479 k479 g479 P479 E479 V479
    have Vd479 := Vd478.ext E479
    have Vf479 := V478.ext E479
    have hdz : t471 ≠ x479 := Nat.ne_of_lt (by rw [g479]; exact Vd478.lt)
    have hfz : t472 ≠ x479 := Nat.ne_of_lt (by rw [g479]; exact V478.lt)
    refine W.g_astore (pc1 := 160) (ls2 := #[.val (.int pr), .val (.int vl), .val (.int fc), .val (.int dn), .val (.int (9 : Int32)), .val (.int (2 : Int32)), .val (.ref t471), .val (.ref t472), .val (.int (2 : Int32)), .val (.ref x479), .unset, .unset, .unset]) P479.q at_158 rfl rfl rfl ?_
    refine W.g_aload (pc1 := 162) P479.q at_160 rfl rfl rfl ?_
    refine W.g_iconst (pc1 := 163) (v := (0 : Int32)) P479.q at_162 (by decide) rfl ?_
    refine W.g_iloadN (pc1 := 164) P479.q at_163 rfl rfl ?_
    refine W.g_iconst (pc1 := 165) (v := (0 : Int32)) P479.q at_164 (by decide) rfl ?_
    refine P479.callS (pc1 := 168) (wd hw (k := 10) rfl) (wd hw (k := 11) rfl) (wd hw (k := 2) rfl) (wd hw (k := 12) rfl) (by decide) (W.MetN.pay (W := 2) (c_dv l Z a0 hw dn 0 h479) P479 (wd hw (k := 12) rfl) (wd hw (k := 2) rfl) (by decide) (by decide)) (argsL := [(.int dn), (.int (0 : Int32))]) (st0 := [(.int (0 : Int32)), (.ref x479)]) (lenOf pd_II_R_D rfl) rfl rfl (Nat.le_of_eq rfl) (by rw [hml]; rfl) (by decide) (by decide) (W.Pure.ok P479.chv) at_165 rfl ?_
    intro v480 T480 h480 L480 q480 P480
    obtain ⟨rfl, rfl, rfl⟩ := q480
    show W.Go p.tables e below _ (T480.setTop (mkF m 168 #[.val (.int pr), .val (.int vl), .val (.int fc), .val (.int dn), .val (.int (9 : Int32)), .val (.int (2 : Int32)), .val (.ref t471), .val (.ref t472), .val (.int (2 : Int32)), .val (.ref x479), .unset, .unset, .unset] [(.double (FP.i2d (own_db dn 0))), (.int (0 : Int32)), (.ref x479)]))
    refine P480.stD (pc1 := 169) (i := 0) V479 (by decide) (by decide) (Nat.le_of_ble_eq_true rfl) rfl (Or.inr (by rw [g479]; exact P478.sz)) (Safe.arv P480.al V479 (by decide)) at_168 rfl ?_
    intro T481 h481 P481 W481 V481
    have Vd481 := Vd479.other W481 hdz
    have Vf481 := Vf479.other W481 hfz
    refine W.g_aload (pc1 := 171) P481.q at_169 rfl rfl rfl ?_
    refine W.g_iconst (pc1 := 172) (v := (1 : Int32)) P481.q at_171 (by decide) rfl ?_
    refine W.g_iloadN (pc1 := 173) P481.q at_172 rfl rfl ?_
    refine W.g_iconst (pc1 := 174) (v := (1 : Int32)) P481.q at_173 (by decide) rfl ?_
    refine P481.callS (pc1 := 177) (wd hw (k := 10) rfl) (wd hw (k := 11) rfl) (wd hw (k := 2) rfl) (wd hw (k := 12) rfl) (by decide) (W.MetN.pay (W := 2) (c_dv l Z a0 hw dn 1 h481) P481 (wd hw (k := 12) rfl) (wd hw (k := 2) rfl) (by decide) (by decide)) (argsL := [(.int dn), (.int (1 : Int32))]) (st0 := [(.int (1 : Int32)), (.ref x479)]) (lenOf pd_II_R_D rfl) rfl rfl (Nat.le_of_eq rfl) (by rw [hml]; rfl) (by decide) (by decide) (W.Pure.ok P481.chv) at_174 rfl ?_
    intro v482 T482 h482 L482 q482 P482
    obtain ⟨rfl, rfl, rfl⟩ := q482
    show W.Go p.tables e below _ (T482.setTop (mkF m 177 #[.val (.int pr), .val (.int vl), .val (.int fc), .val (.int dn), .val (.int (9 : Int32)), .val (.int (2 : Int32)), .val (.ref t471), .val (.ref t472), .val (.int (2 : Int32)), .val (.ref x479), .unset, .unset, .unset] [(.double (FP.i2d (own_db dn 1))), (.int (1 : Int32)), (.ref x479)]))
    refine P482.stD (pc1 := 178) (i := 1) V481 (by decide) (by decide) (Nat.le_of_ble_eq_true rfl) rfl (Or.inr (by rw [g479]; exact P478.sz)) (Safe.arv P482.al V481 (by decide)) at_177 rfl ?_
    intro T483 h483 P483 W483 V483
    have Vd483 := Vd481.other W483 hdz
    have Vf483 := Vf481.other W483 hfz
    refine W.g_aload (pc1 := 180) P483.q at_178 rfl rfl rfl ?_
    refine W.g_iconst (pc1 := 181) (v := (2 : Int32)) P483.q at_180 (by decide) rfl ?_
    refine W.g_iloadN (pc1 := 182) P483.q at_181 rfl rfl ?_
    refine W.g_iconst (pc1 := 183) (v := (2 : Int32)) P483.q at_182 (by decide) rfl ?_
    refine P483.callS (pc1 := 186) (wd hw (k := 10) rfl) (wd hw (k := 11) rfl) (wd hw (k := 2) rfl) (wd hw (k := 12) rfl) (by decide) (W.MetN.pay (W := 2) (c_dv l Z a0 hw dn 2 h483) P483 (wd hw (k := 12) rfl) (wd hw (k := 2) rfl) (by decide) (by decide)) (argsL := [(.int dn), (.int (2 : Int32))]) (st0 := [(.int (2 : Int32)), (.ref x479)]) (lenOf pd_II_R_D rfl) rfl rfl (Nat.le_of_eq rfl) (by rw [hml]; rfl) (by decide) (by decide) (W.Pure.ok P483.chv) at_183 rfl ?_
    intro v484 T484 h484 L484 q484 P484
    obtain ⟨rfl, rfl, rfl⟩ := q484
    show W.Go p.tables e below _ (T484.setTop (mkF m 186 #[.val (.int pr), .val (.int vl), .val (.int fc), .val (.int dn), .val (.int (9 : Int32)), .val (.int (2 : Int32)), .val (.ref t471), .val (.ref t472), .val (.int (2 : Int32)), .val (.ref x479), .unset, .unset, .unset] [(.double (FP.i2d (own_db dn 2))), (.int (2 : Int32)), (.ref x479)]))
    refine P484.stD (pc1 := 187) (i := 2) V483 (by decide) (by decide) (Nat.le_of_ble_eq_true rfl) rfl (Or.inr (by rw [g479]; exact P478.sz)) (Safe.arv P484.al V483 (by decide)) at_186 rfl ?_
    intro T485 h485 P485 W485 V485
    have Vd485 := Vd483.other W485 hdz
    have Vf485 := Vf483.other W485 hfz
    refine W.g_aload (pc1 := 189) P485.q at_187 rfl rfl rfl ?_
    refine W.g_iconst (pc1 := 190) (v := (3 : Int32)) P485.q at_189 (by decide) rfl ?_
    refine W.g_iloadN (pc1 := 191) P485.q at_190 rfl rfl ?_
    refine W.g_iconst (pc1 := 192) (v := (3 : Int32)) P485.q at_191 (by decide) rfl ?_
    refine P485.callS (pc1 := 195) (wd hw (k := 10) rfl) (wd hw (k := 11) rfl) (wd hw (k := 2) rfl) (wd hw (k := 12) rfl) (by decide) (W.MetN.pay (W := 2) (c_dv l Z a0 hw dn 3 h485) P485 (wd hw (k := 12) rfl) (wd hw (k := 2) rfl) (by decide) (by decide)) (argsL := [(.int dn), (.int (3 : Int32))]) (st0 := [(.int (3 : Int32)), (.ref x479)]) (lenOf pd_II_R_D rfl) rfl rfl (Nat.le_of_eq rfl) (by rw [hml]; rfl) (by decide) (by decide) (W.Pure.ok P485.chv) at_192 rfl ?_
    intro v486 T486 h486 L486 q486 P486
    obtain ⟨rfl, rfl, rfl⟩ := q486
    show W.Go p.tables e below _ (T486.setTop (mkF m 195 #[.val (.int pr), .val (.int vl), .val (.int fc), .val (.int dn), .val (.int (9 : Int32)), .val (.int (2 : Int32)), .val (.ref t471), .val (.ref t472), .val (.int (2 : Int32)), .val (.ref x479), .unset, .unset, .unset] [(.double (FP.i2d (own_db dn 3))), (.int (3 : Int32)), (.ref x479)]))
    refine P486.stD (pc1 := 196) (i := 3) V485 (by decide) (by decide) (Nat.le_of_ble_eq_true rfl) rfl (Or.inr (by rw [g479]; exact P478.sz)) (Safe.arv P486.al V485 (by decide)) at_195 rfl ?_
    intro T487 h487 P487 W487 V487
    have Vd487 := Vd485.other W487 hdz
    have Vf487 := Vf485.other W487 hfz
    refine W.g_iloadN (pc1 := 197) P487.q at_196 rfl rfl ?_
    refine W.g_i2d (pc1 := 198) P487.q at_197 rfl ?_
    refine W.g_dstore (pc1 := 200) (ls2 := #[.val (.int pr), .val (.int vl), .val (.int fc), .val (.int dn), .val (.int (9 : Int32)), .val (.int (2 : Int32)), .val (.ref t471), .val (.ref t472), .val (.int (2 : Int32)), .val (.ref x479), .val (.double (FP.i2d fc)), .second, .unset]) P487.q at_198 rfl rfl ?_
    refine P487.newO (pc1 := 203) (wd hw (k := 13) rfl) (wd hw (k := 14) rfl) (wd hw (k := 15) rfl) (by decide) (by decide) at_200 rfl ?_
    intro T488 h488 x488 g488 P488 E488 A488 D488 U488
    refine W.g_dup (pc1 := 204) P488.q at_203 rfl rfl ?_
    refine W.g_aload (pc1 := 206) P488.q at_204 rfl rfl rfl ?_
    refine W.g_aload (pc1 := 208) P488.q at_206 rfl rfl rfl ?_
    have Ndimensions : Fld Z h488 x488 "com/example/intent_search/intentsearch/rank/CategoryVector" "dimensions" "[I" .null := D488 (Or.inr (wd hw (k := 23) rfl)) (ty := (.array .int)) (by decide)
    have Nvalues : Fld Z h488 x488 "com/example/intent_search/intentsearch/rank/CategoryVector" "values" "[F" .null := D488 (Or.inr (wd hw (k := 25) rfl)) (ty := (.array .float)) (by decide)
    refine P488.callN (pc1 := 211) rfl (wd hw (k := 16) rfl) (wd hw (k := 17) rfl) (wd hw (k := 18) rfl) (by decide) (W.MetN.pay (W := 1) (c_cv l Z a0 hw x488 t471 t472 h488 A488 _ Ndimensions _ Nvalues) P488 (wd hw (k := 18) rfl) (wd hw (k := 15) rfl) (by decide) (by decide)) (argsL := [(.ref t471), (.ref t472)]) (st0 := [(.ref x488)]) (lenOf pd_AIAF_R_V rfl) rfl rfl (Nat.le_of_eq rfl) (by rw [hml]; rfl) (by decide) (by decide) (fun _ _ _ q => ⟨q.2.1.up P488.sz (allS (Or.inr (by rw [g488]; exact P487.sz)) all0), CHr.keep q.2.2.1 (sfS (Safe.exa P488.al A488 (by decide) (by decide)) sf0) P488.chv⟩) at_208 rfl ?_
    intro v489 T489 h489 L489 q489 P489
    obtain ⟨rfl, f489, K489, A489, Fd489, Fv489⟩ := q489
    show W.Go p.tables e below _ (T489.setTop (mkF m 211 #[.val (.int pr), .val (.int vl), .val (.int fc), .val (.int dn), .val (.int (9 : Int32)), .val (.int (2 : Int32)), .val (.ref t471), .val (.ref t472), .val (.int (2 : Int32)), .val (.ref x479), .val (.double (FP.i2d fc)), .second, .unset] [(.ref x488)]))
    have Vdq := (Vd487.ext E488).keep K489 (ninS (Ne.symm (Exa.neArv A488 (Vd487.ext E488) (wd hw (k := 14) rfl))) nin0)
    have Vfq := (Vf487.ext E488).keep K489 (ninS (Ne.symm (Exa.neArv A488 (Vf487.ext E488) (wd hw (k := 14) rfl))) nin0)
    have Vzq := (V487.ext E488).keep K489 (ninS (Ne.symm (Exa.neArv A488 (V487.ext E488) (wd hw (k := 14) rfl))) nin0)
    have hxz : x488 ≠ x479 := Exa.neArv A489 Vzq (wd hw (k := 14) rfl)
    refine W.g_astore (pc1 := 213) (ls2 := #[.val (.int pr), .val (.int vl), .val (.int fc), .val (.int dn), .val (.int (9 : Int32)), .val (.int (2 : Int32)), .val (.ref t471), .val (.ref t472), .val (.int (2 : Int32)), .val (.ref x479), .val (.double (FP.i2d fc)), .second, .val (.ref x488)]) P489.q at_211 rfl rfl rfl ?_
    refine W.g_aload (pc1 := 215) P489.q at_213 rfl rfl rfl ?_
    refine W.g_aload (pc1 := 217) P489.q at_215 rfl rfl rfl ?_
    refine W.g_dload (pc1 := 219) P489.q at_217 rfl rfl ?_
    have ok0 := own_one (f := fc) (own_dbb dn 0) (own_vbb vl 0)
    have ok1 := own_one (f := fc) (own_dbb dn 1) (own_vbb vl 1)
    have ok2 := own_one (f := fc) (own_dbb dn 2) (own_vbb vl 2)
    have ok3 := own_one (f := fc) (own_dbb dn 3) (own_vbb vl 3)
    refine P489.callV (pc1 := 222) A489 (wd hw (k := 26) rfl) (wd hw (k := 27) rfl) (wd hw (k := 29) rfl) (wd hw (k := 28) rfl) (notFace_of_selects (args := #[]) (mvT P489.hz (wd hw (k := 29) rfl))) (by decide) (W.MetN.pay (W := 0) (c_add9 l Z a0 hw x488 t471 t472 x479 _ _ _ (FP.i2d (own_db dn 0)) (FP.i2d (own_db dn 1)) (FP.i2d (own_db dn 2)) (FP.i2d (own_db dn 3)) (FP.i2d fc) (FP.i2f (own_vb vl 0)) ok0.1 ok0.2.1 ok0.2.2 (FP.i2f (own_vb vl 3)) ok3.1 ok3.2.1 ok3.2.2 h489 A489 Fd489 Fv489 Vdq Vfq Vzq hdz hfz hxz) P489 (wd hw (k := 30) rfl) (wd hw (k := 15) rfl) (by decide) (by decide)) (argsL := [(.ref x479), (.double (FP.i2d fc))]) (st0 := []) (lenOf pd_ADD_R_V rfl) rfl rfl (Nat.le_of_eq rfl) (by rw [hml]; rfl) (by decide) (by decide) (fun _ _ _ q => ⟨q.2.1.up P489.sz (allS (Or.inr (by rw [g479]; exact P478.sz)) all0), CHr.keep q.2.2.1 (sfS (Safe.arv P489.al Vzq (by decide)) sf0) P489.chv⟩) at_219 rfl ?_
    intro v490 T490 h490 L490 q490 P490
    obtain ⟨rfl, f490, K490, V490⟩ := q490
    show W.Go p.tables e below _ (T490.setTop (mkF m 222 #[.val (.int pr), .val (.int vl), .val (.int fc), .val (.int dn), .val (.int (9 : Int32)), .val (.int (2 : Int32)), .val (.ref t471), .val (.ref t472), .val (.int (2 : Int32)), .val (.ref x479), .val (.double (FP.i2d fc)), .second, .val (.ref x488)] []))
    refine W.g_aload (pc1 := 224) P490.q at_222 rfl rfl rfl ?_
    refine W.g_iconst (pc1 := 225) (v := (0 : Int32)) P490.q at_224 (by decide) rfl ?_
    refine W.g_iload (pc1 := 227) P490.q at_225 rfl rfl ?_
    refine W.g_iloadN (pc1 := 228) P490.q at_227 rfl rfl ?_
    refine W.g_iloadN (pc1 := 229) P490.q at_228 rfl rfl ?_
    refine W.g_dload (pc1 := 231) P490.q at_229 rfl rfl ?_
    refine P490.callS (pc1 := 234) (wd hw (k := 31) rfl) (wd hw (k := 32) rfl) (wd hw (k := 2) rfl) (wd hw (k := 33) rfl) (by decide) (W.MetN.pay (W := 0) (c_chk01 l Z a0 hw x479 _ _ _ _ _ (FP.i2d fc) 9 vl dn (by decide) ok0.1 ok0.2.1 ok0.2.2 (dcmpV_self ok0.2.2 .l) h490 V490) P490 (wd hw (k := 33) rfl) (wd hw (k := 2) rfl) (by decide) (by decide)) (argsL := [(.ref x479), (.int (0 : Int32)), (.int (9 : Int32)), (.int vl), (.int dn), (.double (FP.i2d fc))]) (st0 := []) (lenOf pd_ADIIIID_R_Z rfl) rfl rfl (Nat.le_of_eq rfl) (by rw [hml]; rfl) (by decide) (by decide) (W.Pure.ok P490.chv) at_231 rfl ?_
    intro v491 T491 h491 L491 q491 P491
    obtain ⟨rfl, rfl, rfl⟩ := q491
    show W.Go p.tables e below _ (T491.setTop (mkF m 234 #[.val (.int pr), .val (.int vl), .val (.int fc), .val (.int dn), .val (.int (9 : Int32)), .val (.int (2 : Int32)), .val (.ref t471), .val (.ref t472), .val (.int (2 : Int32)), .val (.ref x479), .val (.double (FP.i2d fc)), .second, .val (.ref x488)] [(.int (1 : Int32))]))
    refine W.g_ifN (pc2 := 237) P491.q at_234 rfl (by decide) ?_
    refine W.g_aload (pc1 := 239) P491.q at_237 rfl rfl rfl ?_
    refine W.g_iconst (pc1 := 240) (v := (1 : Int32)) P491.q at_239 (by decide) rfl ?_
    refine W.g_iload (pc1 := 242) P491.q at_240 rfl rfl ?_
    refine W.g_iloadN (pc1 := 243) P491.q at_242 rfl rfl ?_
    refine W.g_iloadN (pc1 := 244) P491.q at_243 rfl rfl ?_
    refine W.g_dload (pc1 := 246) P491.q at_244 rfl rfl ?_
    refine P491.callS (pc1 := 249) (wd hw (k := 31) rfl) (wd hw (k := 32) rfl) (wd hw (k := 2) rfl) (wd hw (k := 33) rfl) (by decide) (W.MetN.pay (W := 0) (c_chk10 l Z a0 hw x479 _ _ _ _ _ (FP.i2d fc) 9 vl dn (by decide) own_self h490 V490) P491 (wd hw (k := 33) rfl) (wd hw (k := 2) rfl) (by decide) (by decide)) (argsL := [(.ref x479), (.int (1 : Int32)), (.int (9 : Int32)), (.int vl), (.int dn), (.double (FP.i2d fc))]) (st0 := []) (lenOf pd_ADIIIID_R_Z rfl) rfl rfl (Nat.le_of_eq rfl) (by rw [hml]; rfl) (by decide) (by decide) (W.Pure.ok P491.chv) at_246 rfl ?_
    intro v492 T492 h492 L492 q492 P492
    obtain ⟨rfl, rfl, rfl⟩ := q492
    show W.Go p.tables e below _ (T492.setTop (mkF m 249 #[.val (.int pr), .val (.int vl), .val (.int fc), .val (.int dn), .val (.int (9 : Int32)), .val (.int (2 : Int32)), .val (.ref t471), .val (.ref t472), .val (.int (2 : Int32)), .val (.ref x479), .val (.double (FP.i2d fc)), .second, .val (.ref x488)] [(.int (1 : Int32))]))
    refine W.g_ifN (pc2 := 252) P492.q at_249 rfl (by decide) ?_
    refine W.g_aload (pc1 := 254) P492.q at_252 rfl rfl rfl ?_
    refine W.g_iconst (pc1 := 255) (v := (2 : Int32)) P492.q at_254 (by decide) rfl ?_
    refine W.g_iload (pc1 := 257) P492.q at_255 rfl rfl ?_
    refine W.g_iloadN (pc1 := 258) P492.q at_257 rfl rfl ?_
    refine W.g_iloadN (pc1 := 259) P492.q at_258 rfl rfl ?_
    refine W.g_dload (pc1 := 261) P492.q at_259 rfl rfl ?_
    refine P492.callS (pc1 := 264) (wd hw (k := 31) rfl) (wd hw (k := 32) rfl) (wd hw (k := 2) rfl) (wd hw (k := 33) rfl) (by decide) (W.MetN.pay (W := 0) (c_chk20 l Z a0 hw x479 _ _ _ _ _ (FP.i2d fc) 9 vl dn (by decide) own_self h490 V490) P492 (wd hw (k := 33) rfl) (wd hw (k := 2) rfl) (by decide) (by decide)) (argsL := [(.ref x479), (.int (2 : Int32)), (.int (9 : Int32)), (.int vl), (.int dn), (.double (FP.i2d fc))]) (st0 := []) (lenOf pd_ADIIIID_R_Z rfl) rfl rfl (Nat.le_of_eq rfl) (by rw [hml]; rfl) (by decide) (by decide) (W.Pure.ok P492.chv) at_261 rfl ?_
    intro v493 T493 h493 L493 q493 P493
    obtain ⟨rfl, rfl, rfl⟩ := q493
    show W.Go p.tables e below _ (T493.setTop (mkF m 264 #[.val (.int pr), .val (.int vl), .val (.int fc), .val (.int dn), .val (.int (9 : Int32)), .val (.int (2 : Int32)), .val (.ref t471), .val (.ref t472), .val (.int (2 : Int32)), .val (.ref x479), .val (.double (FP.i2d fc)), .second, .val (.ref x488)] [(.int (1 : Int32))]))
    refine W.g_ifN (pc2 := 267) P493.q at_264 rfl (by decide) ?_
    refine W.g_aload (pc1 := 269) P493.q at_267 rfl rfl rfl ?_
    refine W.g_iconst (pc1 := 270) (v := (3 : Int32)) P493.q at_269 (by decide) rfl ?_
    refine W.g_iload (pc1 := 272) P493.q at_270 rfl rfl ?_
    refine W.g_iloadN (pc1 := 273) P493.q at_272 rfl rfl ?_
    refine W.g_iloadN (pc1 := 274) P493.q at_273 rfl rfl ?_
    refine W.g_dload (pc1 := 276) P493.q at_274 rfl rfl ?_
    refine P493.callS (pc1 := 279) (wd hw (k := 31) rfl) (wd hw (k := 32) rfl) (wd hw (k := 2) rfl) (wd hw (k := 33) rfl) (by decide) (W.MetN.pay (W := 0) (c_chk31 l Z a0 hw x479 _ _ _ _ _ (FP.i2d fc) 9 vl dn (by decide) ok3.1 ok3.2.1 ok3.2.2 (dcmpV_self ok3.2.2 .l) h490 V490) P493 (wd hw (k := 33) rfl) (wd hw (k := 2) rfl) (by decide) (by decide)) (argsL := [(.ref x479), (.int (3 : Int32)), (.int (9 : Int32)), (.int vl), (.int dn), (.double (FP.i2d fc))]) (st0 := []) (lenOf pd_ADIIIID_R_Z rfl) rfl rfl (Nat.le_of_eq rfl) (by rw [hml]; rfl) (by decide) (by decide) (W.Pure.ok P493.chv) at_276 rfl ?_
    intro v494 T494 h494 L494 q494 P494
    obtain ⟨rfl, rfl, rfl⟩ := q494
    show W.Go p.tables e below _ (T494.setTop (mkF m 279 #[.val (.int pr), .val (.int vl), .val (.int fc), .val (.int dn), .val (.int (9 : Int32)), .val (.int (2 : Int32)), .val (.ref t471), .val (.ref t472), .val (.int (2 : Int32)), .val (.ref x479), .val (.double (FP.i2d fc)), .second, .val (.ref x488)] [(.int (1 : Int32))]))
    refine W.g_ifN (pc2 := 282) P494.q at_279 rfl (by decide) ?_
    refine W.g_iconst (pc1 := 283) (v := (1 : Int32)) P494.q at_282 (by decide) rfl ?_
    refine W.g_goto (pc1 := 287) P494.q at_283 (by decide) rfl ?_
    exact P494.retVN hlk hret (Or.inl rfl) at_287 (by decide) (by decide) ⟨rfl, P494.fr⟩
  · show W.Go p.tables e below _ (s₁.setTop (mkF m 4 #[.val (.int pr), .val (.int vl), .val (.int fc), .val (.int dn), .unset, .unset, .unset, .unset, .unset, .unset, .unset, .unset, .unset] [(.int (10 : Int32))]))
    refine W.g_istore (pc1 := 6) (ls2 := #[.val (.int pr), .val (.int vl), .val (.int fc), .val (.int dn), .val (.int (10 : Int32)), .unset, .unset, .unset, .unset, .unset, .unset, .unset, .unset]) P0.q at_4 rfl rfl ?_
    refine W.g_iload (pc1 := 8) P0.q at_6 rfl rfl ?_
    refine W.g_iconst (pc1 := 9) (v := (1 : Int32)) P0.q at_8 (by decide) rfl ?_
    refine W.g_iand (pc1 := 10) P0.q at_9 rfl ?_
    refine W.g_iload (pc1 := 12) P0.q at_10 rfl rfl ?_
    refine W.g_iconst (pc1 := 13) (v := (1 : Int32)) P0.q at_12 (by decide) rfl ?_
    refine W.g_ishr (pc1 := 14) P0.q at_13 rfl ?_
    refine W.g_iconst (pc1 := 15) (v := (1 : Int32)) P0.q at_14 (by decide) rfl ?_
    refine W.g_iand (pc1 := 16) P0.q at_15 rfl ?_
    refine W.g_iadd (pc1 := 17) P0.q at_16 rfl ?_
    refine W.g_iload (pc1 := 19) P0.q at_17 rfl rfl ?_
    refine W.g_iconst (pc1 := 20) (v := (2 : Int32)) P0.q at_19 (by decide) rfl ?_
    refine W.g_ishr (pc1 := 21) P0.q at_20 rfl ?_
    refine W.g_iconst (pc1 := 22) (v := (1 : Int32)) P0.q at_21 (by decide) rfl ?_
    refine W.g_iand (pc1 := 23) P0.q at_22 rfl ?_
    refine W.g_iadd (pc1 := 24) P0.q at_23 rfl ?_
    refine W.g_iload (pc1 := 26) P0.q at_24 rfl rfl ?_
    refine W.g_iconst (pc1 := 27) (v := (3 : Int32)) P0.q at_26 (by decide) rfl ?_
    refine W.g_ishr (pc1 := 28) P0.q at_27 rfl ?_
    refine W.g_iconst (pc1 := 29) (v := (1 : Int32)) P0.q at_28 (by decide) rfl ?_
    refine W.g_iand (pc1 := 30) P0.q at_29 rfl ?_
    refine W.g_iadd (pc1 := 31) P0.q at_30 rfl ?_
    rw [show (((((10 : Int32) &&& (1 : Int32)) + (((10 : Int32) >>> ((1 : Int32) &&& 31)) &&& (1 : Int32))) + (((10 : Int32) >>> ((2 : Int32) &&& 31)) &&& (1 : Int32))) + (((10 : Int32) >>> ((3 : Int32) &&& 31)) &&& (1 : Int32))) = (2 : Int32) from by decide]
    refine W.g_istore (pc1 := 33) (ls2 := #[.val (.int pr), .val (.int vl), .val (.int fc), .val (.int dn), .val (.int (10 : Int32)), .val (.int (2 : Int32)), .unset, .unset, .unset, .unset, .unset, .unset, .unset]) P0.q at_31 rfl rfl ?_
    refine W.g_iload (pc1 := 35) P0.q at_33 rfl rfl ?_
    refine P0.callS (pc1 := 38) (wd hw (k := 0) rfl) (wd hw (k := 1) rfl) (wd hw (k := 2) rfl) (wd hw (k := 3) rfl) (by decide) (W.MetN.pay (W := 0) (c_ni2 l Z a0 hw h0) P0 (wd hw (k := 3) rfl) (wd hw (k := 2) rfl) (by decide) (by decide)) (argsL := [(.int (2 : Int32))]) (st0 := []) (lenOf pd_I_R_AI rfl) rfl rfl (Nat.le_of_eq rfl) (by rw [hml]; rfl) (by decide) (by decide) (fun _ _ _ q => by obtain ⟨_, _, _, q2, q3, _⟩ := q; exact ⟨q2.up P0.sz all0, CHr.keep (W.Ext.toKeep q3 []) sf0 P0.chv⟩) at_35 rfl ?_
    intro v495 T495 h495 L495 q495 P495
    obtain ⟨t495, k495, rfl, f495, E495, g495, V495⟩ := q495
    show W.Go p.tables e below _ (T495.setTop (mkF m 38 #[.val (.int pr), .val (.int vl), .val (.int fc), .val (.int dn), .val (.int (10 : Int32)), .val (.int (2 : Int32)), .unset, .unset, .unset, .unset, .unset, .unset, .unset] [(.ref t495)]))
    refine W.g_astore (pc1 := 40) (ls2 := #[.val (.int pr), .val (.int vl), .val (.int fc), .val (.int dn), .val (.int (10 : Int32)), .val (.int (2 : Int32)), .val (.ref t495), .unset, .unset, .unset, .unset, .unset, .unset]) P495.q at_38 rfl rfl rfl ?_
    refine W.g_iload (pc1 := 42) P495.q at_40 rfl rfl ?_
    refine P495.callS (pc1 := 45) (wd hw (k := 5) rfl) (wd hw (k := 6) rfl) (wd hw (k := 2) rfl) (wd hw (k := 7) rfl) (by decide) (W.MetN.pay (W := 0) (c_nf2 l Z a0 hw h495) P495 (wd hw (k := 7) rfl) (wd hw (k := 2) rfl) (by decide) (by decide)) (argsL := [(.int (2 : Int32))]) (st0 := []) (lenOf pd_I_R_AF rfl) rfl rfl (Nat.le_of_eq rfl) (by rw [hml]; rfl) (by decide) (by decide) (fun _ _ _ q => by obtain ⟨_, _, _, q2, q3, _⟩ := q; exact ⟨q2.up P495.sz all0, CHr.keep (W.Ext.toKeep q3 []) sf0 P495.chv⟩) at_42 rfl ?_
    intro v496 T496 h496 L496 q496 P496
    obtain ⟨t496, k496, rfl, f496, E496, g496, V496⟩ := q496
    show W.Go p.tables e below _ (T496.setTop (mkF m 45 #[.val (.int pr), .val (.int vl), .val (.int fc), .val (.int dn), .val (.int (10 : Int32)), .val (.int (2 : Int32)), .val (.ref t495), .unset, .unset, .unset, .unset, .unset, .unset] [(.ref t496)]))
    have hdf : t495 ≠ t496 := Nat.ne_of_lt (Nat.lt_of_lt_of_le V495.lt g496)
    have Vd0 := V495.ext E496
    refine W.g_astore (pc1 := 47) (ls2 := #[.val (.int pr), .val (.int vl), .val (.int fc), .val (.int dn), .val (.int (10 : Int32)), .val (.int (2 : Int32)), .val (.ref t495), .val (.ref t496), .unset, .unset, .unset, .unset, .unset]) P496.q at_45 rfl rfl rfl ?_
    refine W.g_iconst (pc1 := 48) (v := (0 : Int32)) P496.q at_47 (by decide) rfl ?_
    refine W.g_istore (pc1 := 50) (ls2 := #[.val (.int pr), .val (.int vl), .val (.int fc), .val (.int dn), .val (.int (10 : Int32)), .val (.int (2 : Int32)), .val (.ref t495), .val (.ref t496), .val (.int (0 : Int32)), .unset, .unset, .unset, .unset]) P496.q at_48 rfl rfl ?_
    refine W.g_iload (pc1 := 52) P496.q at_50 rfl rfl ?_
    refine W.g_iconst (pc1 := 53) (v := (1 : Int32)) P496.q at_52 (by decide) rfl ?_
    refine W.g_iand (pc1 := 54) P496.q at_53 rfl ?_
    refine W.g_ifY (pc1 := 76) P496.q at_54 (by decide) rfl (by decide) ?_
    refine W.g_iload (pc1 := 78) P496.q at_76 rfl rfl ?_
    refine W.g_iconst (pc1 := 79) (v := (2 : Int32)) P496.q at_78 (by decide) rfl ?_
    refine W.g_iand (pc1 := 80) P496.q at_79 rfl ?_
    refine W.g_ifN (pc2 := 83) P496.q at_80 rfl (by decide) ?_
    refine W.g_aload (pc1 := 85) P496.q at_83 rfl rfl rfl ?_
    refine W.g_iload (pc1 := 87) P496.q at_85 rfl rfl ?_
    refine W.g_iconst (pc1 := 88) (v := (1 : Int32)) P496.q at_87 (by decide) rfl ?_
    refine P496.stI (pc1 := 89) (i := 0) Vd0 (by decide) (by decide) (Nat.le_of_ble_eq_true rfl) rfl (Or.inr (Nat.le_trans P0.sz g495)) (Safe.arv P496.al Vd0 (by decide)) at_88 rfl ?_
    intro T497 h497 P497 W497 V497
    have Vf497 := V496.other W497 (Ne.symm hdf)
    refine W.g_aload (pc1 := 91) P497.q at_89 rfl rfl rfl ?_
    refine W.g_iload (pc1 := 93) P497.q at_91 rfl rfl ?_
    refine W.g_iloadN (pc1 := 94) P497.q at_93 rfl rfl ?_
    refine W.g_iconst (pc1 := 95) (v := (1 : Int32)) P497.q at_94 (by decide) rfl ?_
    refine P497.callS (pc1 := 98) (wd hw (k := 34) rfl) (wd hw (k := 35) rfl) (wd hw (k := 2) rfl) (wd hw (k := 36) rfl) (by decide) (W.MetN.pay (W := 2) (c_val l Z a0 hw vl 1 h497) P497 (wd hw (k := 36) rfl) (wd hw (k := 2) rfl) (by decide) (by decide)) (argsL := [(.int vl), (.int (1 : Int32))]) (st0 := [(.int (0 : Int32)), (.ref t496)]) (lenOf pd_II_R_F rfl) rfl rfl (Nat.le_of_eq rfl) (by rw [hml]; rfl) (by decide) (by decide) (W.Pure.ok P497.chv) at_95 rfl ?_
    intro v498 T498 h498 L498 q498 P498
    obtain ⟨rfl, rfl, rfl⟩ := q498
    show W.Go p.tables e below _ (T498.setTop (mkF m 98 #[.val (.int pr), .val (.int vl), .val (.int fc), .val (.int dn), .val (.int (10 : Int32)), .val (.int (2 : Int32)), .val (.ref t495), .val (.ref t496), .val (.int (0 : Int32)), .unset, .unset, .unset, .unset] [(.float (FP.i2f (own_vb vl 1))), (.int (0 : Int32)), (.ref t496)]))
    refine P498.stF (pc1 := 99) (i := 0) Vf497 (by decide) (by decide) (Nat.le_of_ble_eq_true rfl) rfl (Or.inr (Nat.le_trans P495.sz g496)) (Safe.arv P498.al Vf497 (by decide)) at_98 rfl ?_
    intro T499 h499 P499 W499 V499
    have Vd499 := V497.other W499 hdf
    refine W.g_iinc (pc1 := 102) (ls2 := #[.val (.int pr), .val (.int vl), .val (.int fc), .val (.int dn), .val (.int (10 : Int32)), .val (.int (2 : Int32)), .val (.ref t495), .val (.ref t496), .val (.int ((0 : Int32) + Int32.ofInt 1)), .unset, .unset, .unset, .unset]) P499.q at_99 rfl rfl rfl ?_
    show W.Go p.tables e below _ (T499.setTop (mkF m 102 #[.val (.int pr), .val (.int vl), .val (.int fc), .val (.int dn), .val (.int (10 : Int32)), .val (.int (2 : Int32)), .val (.ref t495), .val (.ref t496), .val (.int (1 : Int32)), .unset, .unset, .unset, .unset] []))
    refine W.g_iload (pc1 := 104) P499.q at_102 rfl rfl ?_
    refine W.g_iconst (pc1 := 105) (v := (4 : Int32)) P499.q at_104 (by decide) rfl ?_
    refine W.g_iand (pc1 := 106) P499.q at_105 rfl ?_
    refine W.g_ifY (pc1 := 128) P499.q at_106 (by decide) rfl (by decide) ?_
    refine W.g_iload (pc1 := 130) P499.q at_128 rfl rfl ?_
    refine W.g_bipush (pc1 := 132) (v := (8 : Int32)) P499.q at_130 (by decide) rfl ?_
    refine W.g_iand (pc1 := 133) P499.q at_132 rfl ?_
    refine W.g_ifN (pc2 := 136) P499.q at_133 rfl (by decide) ?_
    refine W.g_aload (pc1 := 138) P499.q at_136 rfl rfl rfl ?_
    refine W.g_iload (pc1 := 140) P499.q at_138 rfl rfl ?_
    refine W.g_iconst (pc1 := 141) (v := (3 : Int32)) P499.q at_140 (by decide) rfl ?_
    refine P499.stI (pc1 := 142) (i := 1) Vd499 (by decide) (by decide) (Nat.le_of_ble_eq_true rfl) rfl (Or.inr (Nat.le_trans P0.sz g495)) (Safe.arv P499.al Vd499 (by decide)) at_141 rfl ?_
    intro T500 h500 P500 W500 V500
    have Vf500 := V499.other W500 (Ne.symm hdf)
    refine W.g_aload (pc1 := 144) P500.q at_142 rfl rfl rfl ?_
    refine W.g_iload (pc1 := 146) P500.q at_144 rfl rfl ?_
    refine W.g_iloadN (pc1 := 147) P500.q at_146 rfl rfl ?_
    refine W.g_iconst (pc1 := 148) (v := (3 : Int32)) P500.q at_147 (by decide) rfl ?_
    refine P500.callS (pc1 := 151) (wd hw (k := 34) rfl) (wd hw (k := 35) rfl) (wd hw (k := 2) rfl) (wd hw (k := 36) rfl) (by decide) (W.MetN.pay (W := 2) (c_val l Z a0 hw vl 3 h500) P500 (wd hw (k := 36) rfl) (wd hw (k := 2) rfl) (by decide) (by decide)) (argsL := [(.int vl), (.int (3 : Int32))]) (st0 := [(.int (1 : Int32)), (.ref t496)]) (lenOf pd_II_R_F rfl) rfl rfl (Nat.le_of_eq rfl) (by rw [hml]; rfl) (by decide) (by decide) (W.Pure.ok P500.chv) at_148 rfl ?_
    intro v501 T501 h501 L501 q501 P501
    obtain ⟨rfl, rfl, rfl⟩ := q501
    show W.Go p.tables e below _ (T501.setTop (mkF m 151 #[.val (.int pr), .val (.int vl), .val (.int fc), .val (.int dn), .val (.int (10 : Int32)), .val (.int (2 : Int32)), .val (.ref t495), .val (.ref t496), .val (.int (1 : Int32)), .unset, .unset, .unset, .unset] [(.float (FP.i2f (own_vb vl 3))), (.int (1 : Int32)), (.ref t496)]))
    refine P501.stF (pc1 := 152) (i := 1) Vf500 (by decide) (by decide) (Nat.le_of_ble_eq_true rfl) rfl (Or.inr (Nat.le_trans P495.sz g496)) (Safe.arv P501.al Vf500 (by decide)) at_151 rfl ?_
    intro T502 h502 P502 W502 V502
    have Vd502 := V500.other W502 hdf
    refine W.g_iinc (pc1 := 155) (ls2 := #[.val (.int pr), .val (.int vl), .val (.int fc), .val (.int dn), .val (.int (10 : Int32)), .val (.int (2 : Int32)), .val (.ref t495), .val (.ref t496), .val (.int ((1 : Int32) + Int32.ofInt 1)), .unset, .unset, .unset, .unset]) P502.q at_152 rfl rfl rfl ?_
    show W.Go p.tables e below _ (T502.setTop (mkF m 155 #[.val (.int pr), .val (.int vl), .val (.int fc), .val (.int dn), .val (.int (10 : Int32)), .val (.int (2 : Int32)), .val (.ref t495), .val (.ref t496), .val (.int (2 : Int32)), .unset, .unset, .unset, .unset] []))
    refine W.g_iconst (pc1 := 156) (v := (4 : Int32)) P502.q at_155 (by decide) rfl ?_
    refine P502.newP (pc1 := 158) (cap := 4) (wd hw (k := 9) rfl) (by decide) (by decide) (by decide) (by decide) (by decide) at_156 rfl ?_
    intro T503 h503 x503 k503 g503 P503 E503 V503
    have Vd503 := Vd502.ext E503
    have Vf503 := V502.ext E503
    have hdz : t495 ≠ x503 := Nat.ne_of_lt (by rw [g503]; exact Vd502.lt)
    have hfz : t496 ≠ x503 := Nat.ne_of_lt (by rw [g503]; exact V502.lt)
    refine W.g_astore (pc1 := 160) (ls2 := #[.val (.int pr), .val (.int vl), .val (.int fc), .val (.int dn), .val (.int (10 : Int32)), .val (.int (2 : Int32)), .val (.ref t495), .val (.ref t496), .val (.int (2 : Int32)), .val (.ref x503), .unset, .unset, .unset]) P503.q at_158 rfl rfl rfl ?_
    refine W.g_aload (pc1 := 162) P503.q at_160 rfl rfl rfl ?_
    refine W.g_iconst (pc1 := 163) (v := (0 : Int32)) P503.q at_162 (by decide) rfl ?_
    refine W.g_iloadN (pc1 := 164) P503.q at_163 rfl rfl ?_
    refine W.g_iconst (pc1 := 165) (v := (0 : Int32)) P503.q at_164 (by decide) rfl ?_
    refine P503.callS (pc1 := 168) (wd hw (k := 10) rfl) (wd hw (k := 11) rfl) (wd hw (k := 2) rfl) (wd hw (k := 12) rfl) (by decide) (W.MetN.pay (W := 2) (c_dv l Z a0 hw dn 0 h503) P503 (wd hw (k := 12) rfl) (wd hw (k := 2) rfl) (by decide) (by decide)) (argsL := [(.int dn), (.int (0 : Int32))]) (st0 := [(.int (0 : Int32)), (.ref x503)]) (lenOf pd_II_R_D rfl) rfl rfl (Nat.le_of_eq rfl) (by rw [hml]; rfl) (by decide) (by decide) (W.Pure.ok P503.chv) at_165 rfl ?_
    intro v504 T504 h504 L504 q504 P504
    obtain ⟨rfl, rfl, rfl⟩ := q504
    show W.Go p.tables e below _ (T504.setTop (mkF m 168 #[.val (.int pr), .val (.int vl), .val (.int fc), .val (.int dn), .val (.int (10 : Int32)), .val (.int (2 : Int32)), .val (.ref t495), .val (.ref t496), .val (.int (2 : Int32)), .val (.ref x503), .unset, .unset, .unset] [(.double (FP.i2d (own_db dn 0))), (.int (0 : Int32)), (.ref x503)]))
    refine P504.stD (pc1 := 169) (i := 0) V503 (by decide) (by decide) (Nat.le_of_ble_eq_true rfl) rfl (Or.inr (by rw [g503]; exact P502.sz)) (Safe.arv P504.al V503 (by decide)) at_168 rfl ?_
    intro T505 h505 P505 W505 V505
    have Vd505 := Vd503.other W505 hdz
    have Vf505 := Vf503.other W505 hfz
    refine W.g_aload (pc1 := 171) P505.q at_169 rfl rfl rfl ?_
    refine W.g_iconst (pc1 := 172) (v := (1 : Int32)) P505.q at_171 (by decide) rfl ?_
    refine W.g_iloadN (pc1 := 173) P505.q at_172 rfl rfl ?_
    refine W.g_iconst (pc1 := 174) (v := (1 : Int32)) P505.q at_173 (by decide) rfl ?_
    refine P505.callS (pc1 := 177) (wd hw (k := 10) rfl) (wd hw (k := 11) rfl) (wd hw (k := 2) rfl) (wd hw (k := 12) rfl) (by decide) (W.MetN.pay (W := 2) (c_dv l Z a0 hw dn 1 h505) P505 (wd hw (k := 12) rfl) (wd hw (k := 2) rfl) (by decide) (by decide)) (argsL := [(.int dn), (.int (1 : Int32))]) (st0 := [(.int (1 : Int32)), (.ref x503)]) (lenOf pd_II_R_D rfl) rfl rfl (Nat.le_of_eq rfl) (by rw [hml]; rfl) (by decide) (by decide) (W.Pure.ok P505.chv) at_174 rfl ?_
    intro v506 T506 h506 L506 q506 P506
    obtain ⟨rfl, rfl, rfl⟩ := q506
    show W.Go p.tables e below _ (T506.setTop (mkF m 177 #[.val (.int pr), .val (.int vl), .val (.int fc), .val (.int dn), .val (.int (10 : Int32)), .val (.int (2 : Int32)), .val (.ref t495), .val (.ref t496), .val (.int (2 : Int32)), .val (.ref x503), .unset, .unset, .unset] [(.double (FP.i2d (own_db dn 1))), (.int (1 : Int32)), (.ref x503)]))
    refine P506.stD (pc1 := 178) (i := 1) V505 (by decide) (by decide) (Nat.le_of_ble_eq_true rfl) rfl (Or.inr (by rw [g503]; exact P502.sz)) (Safe.arv P506.al V505 (by decide)) at_177 rfl ?_
    intro T507 h507 P507 W507 V507
    have Vd507 := Vd505.other W507 hdz
    have Vf507 := Vf505.other W507 hfz
    refine W.g_aload (pc1 := 180) P507.q at_178 rfl rfl rfl ?_
    refine W.g_iconst (pc1 := 181) (v := (2 : Int32)) P507.q at_180 (by decide) rfl ?_
    refine W.g_iloadN (pc1 := 182) P507.q at_181 rfl rfl ?_
    refine W.g_iconst (pc1 := 183) (v := (2 : Int32)) P507.q at_182 (by decide) rfl ?_
    refine P507.callS (pc1 := 186) (wd hw (k := 10) rfl) (wd hw (k := 11) rfl) (wd hw (k := 2) rfl) (wd hw (k := 12) rfl) (by decide) (W.MetN.pay (W := 2) (c_dv l Z a0 hw dn 2 h507) P507 (wd hw (k := 12) rfl) (wd hw (k := 2) rfl) (by decide) (by decide)) (argsL := [(.int dn), (.int (2 : Int32))]) (st0 := [(.int (2 : Int32)), (.ref x503)]) (lenOf pd_II_R_D rfl) rfl rfl (Nat.le_of_eq rfl) (by rw [hml]; rfl) (by decide) (by decide) (W.Pure.ok P507.chv) at_183 rfl ?_
    intro v508 T508 h508 L508 q508 P508
    obtain ⟨rfl, rfl, rfl⟩ := q508
    show W.Go p.tables e below _ (T508.setTop (mkF m 186 #[.val (.int pr), .val (.int vl), .val (.int fc), .val (.int dn), .val (.int (10 : Int32)), .val (.int (2 : Int32)), .val (.ref t495), .val (.ref t496), .val (.int (2 : Int32)), .val (.ref x503), .unset, .unset, .unset] [(.double (FP.i2d (own_db dn 2))), (.int (2 : Int32)), (.ref x503)]))
    refine P508.stD (pc1 := 187) (i := 2) V507 (by decide) (by decide) (Nat.le_of_ble_eq_true rfl) rfl (Or.inr (by rw [g503]; exact P502.sz)) (Safe.arv P508.al V507 (by decide)) at_186 rfl ?_
    intro T509 h509 P509 W509 V509
    have Vd509 := Vd507.other W509 hdz
    have Vf509 := Vf507.other W509 hfz
    refine W.g_aload (pc1 := 189) P509.q at_187 rfl rfl rfl ?_
    refine W.g_iconst (pc1 := 190) (v := (3 : Int32)) P509.q at_189 (by decide) rfl ?_
    refine W.g_iloadN (pc1 := 191) P509.q at_190 rfl rfl ?_
    refine W.g_iconst (pc1 := 192) (v := (3 : Int32)) P509.q at_191 (by decide) rfl ?_
    refine P509.callS (pc1 := 195) (wd hw (k := 10) rfl) (wd hw (k := 11) rfl) (wd hw (k := 2) rfl) (wd hw (k := 12) rfl) (by decide) (W.MetN.pay (W := 2) (c_dv l Z a0 hw dn 3 h509) P509 (wd hw (k := 12) rfl) (wd hw (k := 2) rfl) (by decide) (by decide)) (argsL := [(.int dn), (.int (3 : Int32))]) (st0 := [(.int (3 : Int32)), (.ref x503)]) (lenOf pd_II_R_D rfl) rfl rfl (Nat.le_of_eq rfl) (by rw [hml]; rfl) (by decide) (by decide) (W.Pure.ok P509.chv) at_192 rfl ?_
    intro v510 T510 h510 L510 q510 P510
    obtain ⟨rfl, rfl, rfl⟩ := q510
    show W.Go p.tables e below _ (T510.setTop (mkF m 195 #[.val (.int pr), .val (.int vl), .val (.int fc), .val (.int dn), .val (.int (10 : Int32)), .val (.int (2 : Int32)), .val (.ref t495), .val (.ref t496), .val (.int (2 : Int32)), .val (.ref x503), .unset, .unset, .unset] [(.double (FP.i2d (own_db dn 3))), (.int (3 : Int32)), (.ref x503)]))
    refine P510.stD (pc1 := 196) (i := 3) V509 (by decide) (by decide) (Nat.le_of_ble_eq_true rfl) rfl (Or.inr (by rw [g503]; exact P502.sz)) (Safe.arv P510.al V509 (by decide)) at_195 rfl ?_
    intro T511 h511 P511 W511 V511
    have Vd511 := Vd509.other W511 hdz
    have Vf511 := Vf509.other W511 hfz
    refine W.g_iloadN (pc1 := 197) P511.q at_196 rfl rfl ?_
    refine W.g_i2d (pc1 := 198) P511.q at_197 rfl ?_
    refine W.g_dstore (pc1 := 200) (ls2 := #[.val (.int pr), .val (.int vl), .val (.int fc), .val (.int dn), .val (.int (10 : Int32)), .val (.int (2 : Int32)), .val (.ref t495), .val (.ref t496), .val (.int (2 : Int32)), .val (.ref x503), .val (.double (FP.i2d fc)), .second, .unset]) P511.q at_198 rfl rfl ?_
    refine P511.newO (pc1 := 203) (wd hw (k := 13) rfl) (wd hw (k := 14) rfl) (wd hw (k := 15) rfl) (by decide) (by decide) at_200 rfl ?_
    intro T512 h512 x512 g512 P512 E512 A512 D512 U512
    refine W.g_dup (pc1 := 204) P512.q at_203 rfl rfl ?_
    refine W.g_aload (pc1 := 206) P512.q at_204 rfl rfl rfl ?_
    refine W.g_aload (pc1 := 208) P512.q at_206 rfl rfl rfl ?_
    have Ndimensions : Fld Z h512 x512 "com/example/intent_search/intentsearch/rank/CategoryVector" "dimensions" "[I" .null := D512 (Or.inr (wd hw (k := 23) rfl)) (ty := (.array .int)) (by decide)
    have Nvalues : Fld Z h512 x512 "com/example/intent_search/intentsearch/rank/CategoryVector" "values" "[F" .null := D512 (Or.inr (wd hw (k := 25) rfl)) (ty := (.array .float)) (by decide)
    refine P512.callN (pc1 := 211) rfl (wd hw (k := 16) rfl) (wd hw (k := 17) rfl) (wd hw (k := 18) rfl) (by decide) (W.MetN.pay (W := 1) (c_cv l Z a0 hw x512 t495 t496 h512 A512 _ Ndimensions _ Nvalues) P512 (wd hw (k := 18) rfl) (wd hw (k := 15) rfl) (by decide) (by decide)) (argsL := [(.ref t495), (.ref t496)]) (st0 := [(.ref x512)]) (lenOf pd_AIAF_R_V rfl) rfl rfl (Nat.le_of_eq rfl) (by rw [hml]; rfl) (by decide) (by decide) (fun _ _ _ q => ⟨q.2.1.up P512.sz (allS (Or.inr (by rw [g512]; exact P511.sz)) all0), CHr.keep q.2.2.1 (sfS (Safe.exa P512.al A512 (by decide) (by decide)) sf0) P512.chv⟩) at_208 rfl ?_
    intro v513 T513 h513 L513 q513 P513
    obtain ⟨rfl, f513, K513, A513, Fd513, Fv513⟩ := q513
    show W.Go p.tables e below _ (T513.setTop (mkF m 211 #[.val (.int pr), .val (.int vl), .val (.int fc), .val (.int dn), .val (.int (10 : Int32)), .val (.int (2 : Int32)), .val (.ref t495), .val (.ref t496), .val (.int (2 : Int32)), .val (.ref x503), .val (.double (FP.i2d fc)), .second, .unset] [(.ref x512)]))
    have Vdq := (Vd511.ext E512).keep K513 (ninS (Ne.symm (Exa.neArv A512 (Vd511.ext E512) (wd hw (k := 14) rfl))) nin0)
    have Vfq := (Vf511.ext E512).keep K513 (ninS (Ne.symm (Exa.neArv A512 (Vf511.ext E512) (wd hw (k := 14) rfl))) nin0)
    have Vzq := (V511.ext E512).keep K513 (ninS (Ne.symm (Exa.neArv A512 (V511.ext E512) (wd hw (k := 14) rfl))) nin0)
    have hxz : x512 ≠ x503 := Exa.neArv A513 Vzq (wd hw (k := 14) rfl)
    refine W.g_astore (pc1 := 213) (ls2 := #[.val (.int pr), .val (.int vl), .val (.int fc), .val (.int dn), .val (.int (10 : Int32)), .val (.int (2 : Int32)), .val (.ref t495), .val (.ref t496), .val (.int (2 : Int32)), .val (.ref x503), .val (.double (FP.i2d fc)), .second, .val (.ref x512)]) P513.q at_211 rfl rfl rfl ?_
    refine W.g_aload (pc1 := 215) P513.q at_213 rfl rfl rfl ?_
    refine W.g_aload (pc1 := 217) P513.q at_215 rfl rfl rfl ?_
    refine W.g_dload (pc1 := 219) P513.q at_217 rfl rfl ?_
    have ok0 := own_one (f := fc) (own_dbb dn 0) (own_vbb vl 0)
    have ok1 := own_one (f := fc) (own_dbb dn 1) (own_vbb vl 1)
    have ok2 := own_one (f := fc) (own_dbb dn 2) (own_vbb vl 2)
    have ok3 := own_one (f := fc) (own_dbb dn 3) (own_vbb vl 3)
    refine P513.callV (pc1 := 222) A513 (wd hw (k := 26) rfl) (wd hw (k := 27) rfl) (wd hw (k := 29) rfl) (wd hw (k := 28) rfl) (notFace_of_selects (args := #[]) (mvT P513.hz (wd hw (k := 29) rfl))) (by decide) (W.MetN.pay (W := 0) (c_add10 l Z a0 hw x512 t495 t496 x503 _ _ _ (FP.i2d (own_db dn 0)) (FP.i2d (own_db dn 1)) (FP.i2d (own_db dn 2)) (FP.i2d (own_db dn 3)) (FP.i2d fc) (FP.i2f (own_vb vl 1)) ok1.1 ok1.2.1 ok1.2.2 (FP.i2f (own_vb vl 3)) ok3.1 ok3.2.1 ok3.2.2 h513 A513 Fd513 Fv513 Vdq Vfq Vzq hdz hfz hxz) P513 (wd hw (k := 30) rfl) (wd hw (k := 15) rfl) (by decide) (by decide)) (argsL := [(.ref x503), (.double (FP.i2d fc))]) (st0 := []) (lenOf pd_ADD_R_V rfl) rfl rfl (Nat.le_of_eq rfl) (by rw [hml]; rfl) (by decide) (by decide) (fun _ _ _ q => ⟨q.2.1.up P513.sz (allS (Or.inr (by rw [g503]; exact P502.sz)) all0), CHr.keep q.2.2.1 (sfS (Safe.arv P513.al Vzq (by decide)) sf0) P513.chv⟩) at_219 rfl ?_
    intro v514 T514 h514 L514 q514 P514
    obtain ⟨rfl, f514, K514, V514⟩ := q514
    show W.Go p.tables e below _ (T514.setTop (mkF m 222 #[.val (.int pr), .val (.int vl), .val (.int fc), .val (.int dn), .val (.int (10 : Int32)), .val (.int (2 : Int32)), .val (.ref t495), .val (.ref t496), .val (.int (2 : Int32)), .val (.ref x503), .val (.double (FP.i2d fc)), .second, .val (.ref x512)] []))
    refine W.g_aload (pc1 := 224) P514.q at_222 rfl rfl rfl ?_
    refine W.g_iconst (pc1 := 225) (v := (0 : Int32)) P514.q at_224 (by decide) rfl ?_
    refine W.g_iload (pc1 := 227) P514.q at_225 rfl rfl ?_
    refine W.g_iloadN (pc1 := 228) P514.q at_227 rfl rfl ?_
    refine W.g_iloadN (pc1 := 229) P514.q at_228 rfl rfl ?_
    refine W.g_dload (pc1 := 231) P514.q at_229 rfl rfl ?_
    refine P514.callS (pc1 := 234) (wd hw (k := 31) rfl) (wd hw (k := 32) rfl) (wd hw (k := 2) rfl) (wd hw (k := 33) rfl) (by decide) (W.MetN.pay (W := 0) (c_chk00 l Z a0 hw x503 _ _ _ _ _ (FP.i2d fc) 10 vl dn (by decide) own_self h514 V514) P514 (wd hw (k := 33) rfl) (wd hw (k := 2) rfl) (by decide) (by decide)) (argsL := [(.ref x503), (.int (0 : Int32)), (.int (10 : Int32)), (.int vl), (.int dn), (.double (FP.i2d fc))]) (st0 := []) (lenOf pd_ADIIIID_R_Z rfl) rfl rfl (Nat.le_of_eq rfl) (by rw [hml]; rfl) (by decide) (by decide) (W.Pure.ok P514.chv) at_231 rfl ?_
    intro v515 T515 h515 L515 q515 P515
    obtain ⟨rfl, rfl, rfl⟩ := q515
    show W.Go p.tables e below _ (T515.setTop (mkF m 234 #[.val (.int pr), .val (.int vl), .val (.int fc), .val (.int dn), .val (.int (10 : Int32)), .val (.int (2 : Int32)), .val (.ref t495), .val (.ref t496), .val (.int (2 : Int32)), .val (.ref x503), .val (.double (FP.i2d fc)), .second, .val (.ref x512)] [(.int (1 : Int32))]))
    refine W.g_ifN (pc2 := 237) P515.q at_234 rfl (by decide) ?_
    refine W.g_aload (pc1 := 239) P515.q at_237 rfl rfl rfl ?_
    refine W.g_iconst (pc1 := 240) (v := (1 : Int32)) P515.q at_239 (by decide) rfl ?_
    refine W.g_iload (pc1 := 242) P515.q at_240 rfl rfl ?_
    refine W.g_iloadN (pc1 := 243) P515.q at_242 rfl rfl ?_
    refine W.g_iloadN (pc1 := 244) P515.q at_243 rfl rfl ?_
    refine W.g_dload (pc1 := 246) P515.q at_244 rfl rfl ?_
    refine P515.callS (pc1 := 249) (wd hw (k := 31) rfl) (wd hw (k := 32) rfl) (wd hw (k := 2) rfl) (wd hw (k := 33) rfl) (by decide) (W.MetN.pay (W := 0) (c_chk11 l Z a0 hw x503 _ _ _ _ _ (FP.i2d fc) 10 vl dn (by decide) ok1.1 ok1.2.1 ok1.2.2 (dcmpV_self ok1.2.2 .l) h514 V514) P515 (wd hw (k := 33) rfl) (wd hw (k := 2) rfl) (by decide) (by decide)) (argsL := [(.ref x503), (.int (1 : Int32)), (.int (10 : Int32)), (.int vl), (.int dn), (.double (FP.i2d fc))]) (st0 := []) (lenOf pd_ADIIIID_R_Z rfl) rfl rfl (Nat.le_of_eq rfl) (by rw [hml]; rfl) (by decide) (by decide) (W.Pure.ok P515.chv) at_246 rfl ?_
    intro v516 T516 h516 L516 q516 P516
    obtain ⟨rfl, rfl, rfl⟩ := q516
    show W.Go p.tables e below _ (T516.setTop (mkF m 249 #[.val (.int pr), .val (.int vl), .val (.int fc), .val (.int dn), .val (.int (10 : Int32)), .val (.int (2 : Int32)), .val (.ref t495), .val (.ref t496), .val (.int (2 : Int32)), .val (.ref x503), .val (.double (FP.i2d fc)), .second, .val (.ref x512)] [(.int (1 : Int32))]))
    refine W.g_ifN (pc2 := 252) P516.q at_249 rfl (by decide) ?_
    refine W.g_aload (pc1 := 254) P516.q at_252 rfl rfl rfl ?_
    refine W.g_iconst (pc1 := 255) (v := (2 : Int32)) P516.q at_254 (by decide) rfl ?_
    refine W.g_iload (pc1 := 257) P516.q at_255 rfl rfl ?_
    refine W.g_iloadN (pc1 := 258) P516.q at_257 rfl rfl ?_
    refine W.g_iloadN (pc1 := 259) P516.q at_258 rfl rfl ?_
    refine W.g_dload (pc1 := 261) P516.q at_259 rfl rfl ?_
    refine P516.callS (pc1 := 264) (wd hw (k := 31) rfl) (wd hw (k := 32) rfl) (wd hw (k := 2) rfl) (wd hw (k := 33) rfl) (by decide) (W.MetN.pay (W := 0) (c_chk20 l Z a0 hw x503 _ _ _ _ _ (FP.i2d fc) 10 vl dn (by decide) own_self h514 V514) P516 (wd hw (k := 33) rfl) (wd hw (k := 2) rfl) (by decide) (by decide)) (argsL := [(.ref x503), (.int (2 : Int32)), (.int (10 : Int32)), (.int vl), (.int dn), (.double (FP.i2d fc))]) (st0 := []) (lenOf pd_ADIIIID_R_Z rfl) rfl rfl (Nat.le_of_eq rfl) (by rw [hml]; rfl) (by decide) (by decide) (W.Pure.ok P516.chv) at_261 rfl ?_
    intro v517 T517 h517 L517 q517 P517
    obtain ⟨rfl, rfl, rfl⟩ := q517
    show W.Go p.tables e below _ (T517.setTop (mkF m 264 #[.val (.int pr), .val (.int vl), .val (.int fc), .val (.int dn), .val (.int (10 : Int32)), .val (.int (2 : Int32)), .val (.ref t495), .val (.ref t496), .val (.int (2 : Int32)), .val (.ref x503), .val (.double (FP.i2d fc)), .second, .val (.ref x512)] [(.int (1 : Int32))]))
    refine W.g_ifN (pc2 := 267) P517.q at_264 rfl (by decide) ?_
    refine W.g_aload (pc1 := 269) P517.q at_267 rfl rfl rfl ?_
    refine W.g_iconst (pc1 := 270) (v := (3 : Int32)) P517.q at_269 (by decide) rfl ?_
    refine W.g_iload (pc1 := 272) P517.q at_270 rfl rfl ?_
    refine W.g_iloadN (pc1 := 273) P517.q at_272 rfl rfl ?_
    refine W.g_iloadN (pc1 := 274) P517.q at_273 rfl rfl ?_
    refine W.g_dload (pc1 := 276) P517.q at_274 rfl rfl ?_
    refine P517.callS (pc1 := 279) (wd hw (k := 31) rfl) (wd hw (k := 32) rfl) (wd hw (k := 2) rfl) (wd hw (k := 33) rfl) (by decide) (W.MetN.pay (W := 0) (c_chk31 l Z a0 hw x503 _ _ _ _ _ (FP.i2d fc) 10 vl dn (by decide) ok3.1 ok3.2.1 ok3.2.2 (dcmpV_self ok3.2.2 .l) h514 V514) P517 (wd hw (k := 33) rfl) (wd hw (k := 2) rfl) (by decide) (by decide)) (argsL := [(.ref x503), (.int (3 : Int32)), (.int (10 : Int32)), (.int vl), (.int dn), (.double (FP.i2d fc))]) (st0 := []) (lenOf pd_ADIIIID_R_Z rfl) rfl rfl (Nat.le_of_eq rfl) (by rw [hml]; rfl) (by decide) (by decide) (W.Pure.ok P517.chv) at_276 rfl ?_
    intro v518 T518 h518 L518 q518 P518
    obtain ⟨rfl, rfl, rfl⟩ := q518
    show W.Go p.tables e below _ (T518.setTop (mkF m 279 #[.val (.int pr), .val (.int vl), .val (.int fc), .val (.int dn), .val (.int (10 : Int32)), .val (.int (2 : Int32)), .val (.ref t495), .val (.ref t496), .val (.int (2 : Int32)), .val (.ref x503), .val (.double (FP.i2d fc)), .second, .val (.ref x512)] [(.int (1 : Int32))]))
    refine W.g_ifN (pc2 := 282) P518.q at_279 rfl (by decide) ?_
    refine W.g_iconst (pc1 := 283) (v := (1 : Int32)) P518.q at_282 (by decide) rfl ?_
    refine W.g_goto (pc1 := 287) P518.q at_283 (by decide) rfl ?_
    exact P518.retVN hlk hret (Or.inl rfl) at_287 (by decide) (by decide) ⟨rfl, P518.fr⟩
  · show W.Go p.tables e below _ (s₁.setTop (mkF m 4 #[.val (.int pr), .val (.int vl), .val (.int fc), .val (.int dn), .unset, .unset, .unset, .unset, .unset, .unset, .unset, .unset, .unset] [(.int (11 : Int32))]))
    refine W.g_istore (pc1 := 6) (ls2 := #[.val (.int pr), .val (.int vl), .val (.int fc), .val (.int dn), .val (.int (11 : Int32)), .unset, .unset, .unset, .unset, .unset, .unset, .unset, .unset]) P0.q at_4 rfl rfl ?_
    refine W.g_iload (pc1 := 8) P0.q at_6 rfl rfl ?_
    refine W.g_iconst (pc1 := 9) (v := (1 : Int32)) P0.q at_8 (by decide) rfl ?_
    refine W.g_iand (pc1 := 10) P0.q at_9 rfl ?_
    refine W.g_iload (pc1 := 12) P0.q at_10 rfl rfl ?_
    refine W.g_iconst (pc1 := 13) (v := (1 : Int32)) P0.q at_12 (by decide) rfl ?_
    refine W.g_ishr (pc1 := 14) P0.q at_13 rfl ?_
    refine W.g_iconst (pc1 := 15) (v := (1 : Int32)) P0.q at_14 (by decide) rfl ?_
    refine W.g_iand (pc1 := 16) P0.q at_15 rfl ?_
    refine W.g_iadd (pc1 := 17) P0.q at_16 rfl ?_
    refine W.g_iload (pc1 := 19) P0.q at_17 rfl rfl ?_
    refine W.g_iconst (pc1 := 20) (v := (2 : Int32)) P0.q at_19 (by decide) rfl ?_
    refine W.g_ishr (pc1 := 21) P0.q at_20 rfl ?_
    refine W.g_iconst (pc1 := 22) (v := (1 : Int32)) P0.q at_21 (by decide) rfl ?_
    refine W.g_iand (pc1 := 23) P0.q at_22 rfl ?_
    refine W.g_iadd (pc1 := 24) P0.q at_23 rfl ?_
    refine W.g_iload (pc1 := 26) P0.q at_24 rfl rfl ?_
    refine W.g_iconst (pc1 := 27) (v := (3 : Int32)) P0.q at_26 (by decide) rfl ?_
    refine W.g_ishr (pc1 := 28) P0.q at_27 rfl ?_
    refine W.g_iconst (pc1 := 29) (v := (1 : Int32)) P0.q at_28 (by decide) rfl ?_
    refine W.g_iand (pc1 := 30) P0.q at_29 rfl ?_
    refine W.g_iadd (pc1 := 31) P0.q at_30 rfl ?_
    rw [show (((((11 : Int32) &&& (1 : Int32)) + (((11 : Int32) >>> ((1 : Int32) &&& 31)) &&& (1 : Int32))) + (((11 : Int32) >>> ((2 : Int32) &&& 31)) &&& (1 : Int32))) + (((11 : Int32) >>> ((3 : Int32) &&& 31)) &&& (1 : Int32))) = (3 : Int32) from by decide]
    refine W.g_istore (pc1 := 33) (ls2 := #[.val (.int pr), .val (.int vl), .val (.int fc), .val (.int dn), .val (.int (11 : Int32)), .val (.int (3 : Int32)), .unset, .unset, .unset, .unset, .unset, .unset, .unset]) P0.q at_31 rfl rfl ?_
    refine W.g_iload (pc1 := 35) P0.q at_33 rfl rfl ?_
    refine P0.callS (pc1 := 38) (wd hw (k := 0) rfl) (wd hw (k := 1) rfl) (wd hw (k := 2) rfl) (wd hw (k := 3) rfl) (by decide) (W.MetN.pay (W := 0) (c_ni3 l Z a0 hw h0) P0 (wd hw (k := 3) rfl) (wd hw (k := 2) rfl) (by decide) (by decide)) (argsL := [(.int (3 : Int32))]) (st0 := []) (lenOf pd_I_R_AI rfl) rfl rfl (Nat.le_of_eq rfl) (by rw [hml]; rfl) (by decide) (by decide) (fun _ _ _ q => by obtain ⟨_, _, _, q2, q3, _⟩ := q; exact ⟨q2.up P0.sz all0, CHr.keep (W.Ext.toKeep q3 []) sf0 P0.chv⟩) at_35 rfl ?_
    intro v519 T519 h519 L519 q519 P519
    obtain ⟨t519, k519, rfl, f519, E519, g519, V519⟩ := q519
    show W.Go p.tables e below _ (T519.setTop (mkF m 38 #[.val (.int pr), .val (.int vl), .val (.int fc), .val (.int dn), .val (.int (11 : Int32)), .val (.int (3 : Int32)), .unset, .unset, .unset, .unset, .unset, .unset, .unset] [(.ref t519)]))
    refine W.g_astore (pc1 := 40) (ls2 := #[.val (.int pr), .val (.int vl), .val (.int fc), .val (.int dn), .val (.int (11 : Int32)), .val (.int (3 : Int32)), .val (.ref t519), .unset, .unset, .unset, .unset, .unset, .unset]) P519.q at_38 rfl rfl rfl ?_
    refine W.g_iload (pc1 := 42) P519.q at_40 rfl rfl ?_
    refine P519.callS (pc1 := 45) (wd hw (k := 5) rfl) (wd hw (k := 6) rfl) (wd hw (k := 2) rfl) (wd hw (k := 7) rfl) (by decide) (W.MetN.pay (W := 0) (c_nf3 l Z a0 hw h519) P519 (wd hw (k := 7) rfl) (wd hw (k := 2) rfl) (by decide) (by decide)) (argsL := [(.int (3 : Int32))]) (st0 := []) (lenOf pd_I_R_AF rfl) rfl rfl (Nat.le_of_eq rfl) (by rw [hml]; rfl) (by decide) (by decide) (fun _ _ _ q => by obtain ⟨_, _, _, q2, q3, _⟩ := q; exact ⟨q2.up P519.sz all0, CHr.keep (W.Ext.toKeep q3 []) sf0 P519.chv⟩) at_42 rfl ?_
    intro v520 T520 h520 L520 q520 P520
    obtain ⟨t520, k520, rfl, f520, E520, g520, V520⟩ := q520
    show W.Go p.tables e below _ (T520.setTop (mkF m 45 #[.val (.int pr), .val (.int vl), .val (.int fc), .val (.int dn), .val (.int (11 : Int32)), .val (.int (3 : Int32)), .val (.ref t519), .unset, .unset, .unset, .unset, .unset, .unset] [(.ref t520)]))
    have hdf : t519 ≠ t520 := Nat.ne_of_lt (Nat.lt_of_lt_of_le V519.lt g520)
    have Vd0 := V519.ext E520
    refine W.g_astore (pc1 := 47) (ls2 := #[.val (.int pr), .val (.int vl), .val (.int fc), .val (.int dn), .val (.int (11 : Int32)), .val (.int (3 : Int32)), .val (.ref t519), .val (.ref t520), .unset, .unset, .unset, .unset, .unset]) P520.q at_45 rfl rfl rfl ?_
    refine W.g_iconst (pc1 := 48) (v := (0 : Int32)) P520.q at_47 (by decide) rfl ?_
    refine W.g_istore (pc1 := 50) (ls2 := #[.val (.int pr), .val (.int vl), .val (.int fc), .val (.int dn), .val (.int (11 : Int32)), .val (.int (3 : Int32)), .val (.ref t519), .val (.ref t520), .val (.int (0 : Int32)), .unset, .unset, .unset, .unset]) P520.q at_48 rfl rfl ?_
    refine W.g_iload (pc1 := 52) P520.q at_50 rfl rfl ?_
    refine W.g_iconst (pc1 := 53) (v := (1 : Int32)) P520.q at_52 (by decide) rfl ?_
    refine W.g_iand (pc1 := 54) P520.q at_53 rfl ?_
    refine W.g_ifN (pc2 := 57) P520.q at_54 rfl (by decide) ?_
    refine W.g_aload (pc1 := 59) P520.q at_57 rfl rfl rfl ?_
    refine W.g_iload (pc1 := 61) P520.q at_59 rfl rfl ?_
    refine W.g_iconst (pc1 := 62) (v := (0 : Int32)) P520.q at_61 (by decide) rfl ?_
    refine P520.stI (pc1 := 63) (i := 0) Vd0 (by decide) (by decide) (Nat.le_of_ble_eq_true rfl) rfl (Or.inr (Nat.le_trans P0.sz g519)) (Safe.arv P520.al Vd0 (by decide)) at_62 rfl ?_
    intro T521 h521 P521 W521 V521
    have Vf521 := V520.other W521 (Ne.symm hdf)
    refine W.g_aload (pc1 := 65) P521.q at_63 rfl rfl rfl ?_
    refine W.g_iload (pc1 := 67) P521.q at_65 rfl rfl ?_
    refine W.g_iloadN (pc1 := 68) P521.q at_67 rfl rfl ?_
    refine W.g_iconst (pc1 := 69) (v := (0 : Int32)) P521.q at_68 (by decide) rfl ?_
    refine P521.callS (pc1 := 72) (wd hw (k := 34) rfl) (wd hw (k := 35) rfl) (wd hw (k := 2) rfl) (wd hw (k := 36) rfl) (by decide) (W.MetN.pay (W := 2) (c_val l Z a0 hw vl 0 h521) P521 (wd hw (k := 36) rfl) (wd hw (k := 2) rfl) (by decide) (by decide)) (argsL := [(.int vl), (.int (0 : Int32))]) (st0 := [(.int (0 : Int32)), (.ref t520)]) (lenOf pd_II_R_F rfl) rfl rfl (Nat.le_of_eq rfl) (by rw [hml]; rfl) (by decide) (by decide) (W.Pure.ok P521.chv) at_69 rfl ?_
    intro v522 T522 h522 L522 q522 P522
    obtain ⟨rfl, rfl, rfl⟩ := q522
    show W.Go p.tables e below _ (T522.setTop (mkF m 72 #[.val (.int pr), .val (.int vl), .val (.int fc), .val (.int dn), .val (.int (11 : Int32)), .val (.int (3 : Int32)), .val (.ref t519), .val (.ref t520), .val (.int (0 : Int32)), .unset, .unset, .unset, .unset] [(.float (FP.i2f (own_vb vl 0))), (.int (0 : Int32)), (.ref t520)]))
    refine P522.stF (pc1 := 73) (i := 0) Vf521 (by decide) (by decide) (Nat.le_of_ble_eq_true rfl) rfl (Or.inr (Nat.le_trans P519.sz g520)) (Safe.arv P522.al Vf521 (by decide)) at_72 rfl ?_
    intro T523 h523 P523 W523 V523
    have Vd523 := V521.other W523 hdf
    refine W.g_iinc (pc1 := 76) (ls2 := #[.val (.int pr), .val (.int vl), .val (.int fc), .val (.int dn), .val (.int (11 : Int32)), .val (.int (3 : Int32)), .val (.ref t519), .val (.ref t520), .val (.int ((0 : Int32) + Int32.ofInt 1)), .unset, .unset, .unset, .unset]) P523.q at_73 rfl rfl rfl ?_
    show W.Go p.tables e below _ (T523.setTop (mkF m 76 #[.val (.int pr), .val (.int vl), .val (.int fc), .val (.int dn), .val (.int (11 : Int32)), .val (.int (3 : Int32)), .val (.ref t519), .val (.ref t520), .val (.int (1 : Int32)), .unset, .unset, .unset, .unset] []))
    refine W.g_iload (pc1 := 78) P523.q at_76 rfl rfl ?_
    refine W.g_iconst (pc1 := 79) (v := (2 : Int32)) P523.q at_78 (by decide) rfl ?_
    refine W.g_iand (pc1 := 80) P523.q at_79 rfl ?_
    refine W.g_ifN (pc2 := 83) P523.q at_80 rfl (by decide) ?_
    refine W.g_aload (pc1 := 85) P523.q at_83 rfl rfl rfl ?_
    refine W.g_iload (pc1 := 87) P523.q at_85 rfl rfl ?_
    refine W.g_iconst (pc1 := 88) (v := (1 : Int32)) P523.q at_87 (by decide) rfl ?_
    refine P523.stI (pc1 := 89) (i := 1) Vd523 (by decide) (by decide) (Nat.le_of_ble_eq_true rfl) rfl (Or.inr (Nat.le_trans P0.sz g519)) (Safe.arv P523.al Vd523 (by decide)) at_88 rfl ?_
    intro T524 h524 P524 W524 V524
    have Vf524 := V523.other W524 (Ne.symm hdf)
    refine W.g_aload (pc1 := 91) P524.q at_89 rfl rfl rfl ?_
    refine W.g_iload (pc1 := 93) P524.q at_91 rfl rfl ?_
    refine W.g_iloadN (pc1 := 94) P524.q at_93 rfl rfl ?_
    refine W.g_iconst (pc1 := 95) (v := (1 : Int32)) P524.q at_94 (by decide) rfl ?_
    refine P524.callS (pc1 := 98) (wd hw (k := 34) rfl) (wd hw (k := 35) rfl) (wd hw (k := 2) rfl) (wd hw (k := 36) rfl) (by decide) (W.MetN.pay (W := 2) (c_val l Z a0 hw vl 1 h524) P524 (wd hw (k := 36) rfl) (wd hw (k := 2) rfl) (by decide) (by decide)) (argsL := [(.int vl), (.int (1 : Int32))]) (st0 := [(.int (1 : Int32)), (.ref t520)]) (lenOf pd_II_R_F rfl) rfl rfl (Nat.le_of_eq rfl) (by rw [hml]; rfl) (by decide) (by decide) (W.Pure.ok P524.chv) at_95 rfl ?_
    intro v525 T525 h525 L525 q525 P525
    obtain ⟨rfl, rfl, rfl⟩ := q525
    show W.Go p.tables e below _ (T525.setTop (mkF m 98 #[.val (.int pr), .val (.int vl), .val (.int fc), .val (.int dn), .val (.int (11 : Int32)), .val (.int (3 : Int32)), .val (.ref t519), .val (.ref t520), .val (.int (1 : Int32)), .unset, .unset, .unset, .unset] [(.float (FP.i2f (own_vb vl 1))), (.int (1 : Int32)), (.ref t520)]))
    refine P525.stF (pc1 := 99) (i := 1) Vf524 (by decide) (by decide) (Nat.le_of_ble_eq_true rfl) rfl (Or.inr (Nat.le_trans P519.sz g520)) (Safe.arv P525.al Vf524 (by decide)) at_98 rfl ?_
    intro T526 h526 P526 W526 V526
    have Vd526 := V524.other W526 hdf
    refine W.g_iinc (pc1 := 102) (ls2 := #[.val (.int pr), .val (.int vl), .val (.int fc), .val (.int dn), .val (.int (11 : Int32)), .val (.int (3 : Int32)), .val (.ref t519), .val (.ref t520), .val (.int ((1 : Int32) + Int32.ofInt 1)), .unset, .unset, .unset, .unset]) P526.q at_99 rfl rfl rfl ?_
    show W.Go p.tables e below _ (T526.setTop (mkF m 102 #[.val (.int pr), .val (.int vl), .val (.int fc), .val (.int dn), .val (.int (11 : Int32)), .val (.int (3 : Int32)), .val (.ref t519), .val (.ref t520), .val (.int (2 : Int32)), .unset, .unset, .unset, .unset] []))
    refine W.g_iload (pc1 := 104) P526.q at_102 rfl rfl ?_
    refine W.g_iconst (pc1 := 105) (v := (4 : Int32)) P526.q at_104 (by decide) rfl ?_
    refine W.g_iand (pc1 := 106) P526.q at_105 rfl ?_
    refine W.g_ifY (pc1 := 128) P526.q at_106 (by decide) rfl (by decide) ?_
    refine W.g_iload (pc1 := 130) P526.q at_128 rfl rfl ?_
    refine W.g_bipush (pc1 := 132) (v := (8 : Int32)) P526.q at_130 (by decide) rfl ?_
    refine W.g_iand (pc1 := 133) P526.q at_132 rfl ?_
    refine W.g_ifN (pc2 := 136) P526.q at_133 rfl (by decide) ?_
    refine W.g_aload (pc1 := 138) P526.q at_136 rfl rfl rfl ?_
    refine W.g_iload (pc1 := 140) P526.q at_138 rfl rfl ?_
    refine W.g_iconst (pc1 := 141) (v := (3 : Int32)) P526.q at_140 (by decide) rfl ?_
    refine P526.stI (pc1 := 142) (i := 2) Vd526 (by decide) (by decide) (Nat.le_of_ble_eq_true rfl) rfl (Or.inr (Nat.le_trans P0.sz g519)) (Safe.arv P526.al Vd526 (by decide)) at_141 rfl ?_
    intro T527 h527 P527 W527 V527
    have Vf527 := V526.other W527 (Ne.symm hdf)
    refine W.g_aload (pc1 := 144) P527.q at_142 rfl rfl rfl ?_
    refine W.g_iload (pc1 := 146) P527.q at_144 rfl rfl ?_
    refine W.g_iloadN (pc1 := 147) P527.q at_146 rfl rfl ?_
    refine W.g_iconst (pc1 := 148) (v := (3 : Int32)) P527.q at_147 (by decide) rfl ?_
    refine P527.callS (pc1 := 151) (wd hw (k := 34) rfl) (wd hw (k := 35) rfl) (wd hw (k := 2) rfl) (wd hw (k := 36) rfl) (by decide) (W.MetN.pay (W := 2) (c_val l Z a0 hw vl 3 h527) P527 (wd hw (k := 36) rfl) (wd hw (k := 2) rfl) (by decide) (by decide)) (argsL := [(.int vl), (.int (3 : Int32))]) (st0 := [(.int (2 : Int32)), (.ref t520)]) (lenOf pd_II_R_F rfl) rfl rfl (Nat.le_of_eq rfl) (by rw [hml]; rfl) (by decide) (by decide) (W.Pure.ok P527.chv) at_148 rfl ?_
    intro v528 T528 h528 L528 q528 P528
    obtain ⟨rfl, rfl, rfl⟩ := q528
    show W.Go p.tables e below _ (T528.setTop (mkF m 151 #[.val (.int pr), .val (.int vl), .val (.int fc), .val (.int dn), .val (.int (11 : Int32)), .val (.int (3 : Int32)), .val (.ref t519), .val (.ref t520), .val (.int (2 : Int32)), .unset, .unset, .unset, .unset] [(.float (FP.i2f (own_vb vl 3))), (.int (2 : Int32)), (.ref t520)]))
    refine P528.stF (pc1 := 152) (i := 2) Vf527 (by decide) (by decide) (Nat.le_of_ble_eq_true rfl) rfl (Or.inr (Nat.le_trans P519.sz g520)) (Safe.arv P528.al Vf527 (by decide)) at_151 rfl ?_
    intro T529 h529 P529 W529 V529
    have Vd529 := V527.other W529 hdf
    refine W.g_iinc (pc1 := 155) (ls2 := #[.val (.int pr), .val (.int vl), .val (.int fc), .val (.int dn), .val (.int (11 : Int32)), .val (.int (3 : Int32)), .val (.ref t519), .val (.ref t520), .val (.int ((2 : Int32) + Int32.ofInt 1)), .unset, .unset, .unset, .unset]) P529.q at_152 rfl rfl rfl ?_
    show W.Go p.tables e below _ (T529.setTop (mkF m 155 #[.val (.int pr), .val (.int vl), .val (.int fc), .val (.int dn), .val (.int (11 : Int32)), .val (.int (3 : Int32)), .val (.ref t519), .val (.ref t520), .val (.int (3 : Int32)), .unset, .unset, .unset, .unset] []))
    refine W.g_iconst (pc1 := 156) (v := (4 : Int32)) P529.q at_155 (by decide) rfl ?_
    refine P529.newP (pc1 := 158) (cap := 4) (wd hw (k := 9) rfl) (by decide) (by decide) (by decide) (by decide) (by decide) at_156 rfl ?_
    intro T530 h530 x530 k530 g530 P530 E530 V530
    have Vd530 := Vd529.ext E530
    have Vf530 := V529.ext E530
    have hdz : t519 ≠ x530 := Nat.ne_of_lt (by rw [g530]; exact Vd529.lt)
    have hfz : t520 ≠ x530 := Nat.ne_of_lt (by rw [g530]; exact V529.lt)
    refine W.g_astore (pc1 := 160) (ls2 := #[.val (.int pr), .val (.int vl), .val (.int fc), .val (.int dn), .val (.int (11 : Int32)), .val (.int (3 : Int32)), .val (.ref t519), .val (.ref t520), .val (.int (3 : Int32)), .val (.ref x530), .unset, .unset, .unset]) P530.q at_158 rfl rfl rfl ?_
    refine W.g_aload (pc1 := 162) P530.q at_160 rfl rfl rfl ?_
    refine W.g_iconst (pc1 := 163) (v := (0 : Int32)) P530.q at_162 (by decide) rfl ?_
    refine W.g_iloadN (pc1 := 164) P530.q at_163 rfl rfl ?_
    refine W.g_iconst (pc1 := 165) (v := (0 : Int32)) P530.q at_164 (by decide) rfl ?_
    refine P530.callS (pc1 := 168) (wd hw (k := 10) rfl) (wd hw (k := 11) rfl) (wd hw (k := 2) rfl) (wd hw (k := 12) rfl) (by decide) (W.MetN.pay (W := 2) (c_dv l Z a0 hw dn 0 h530) P530 (wd hw (k := 12) rfl) (wd hw (k := 2) rfl) (by decide) (by decide)) (argsL := [(.int dn), (.int (0 : Int32))]) (st0 := [(.int (0 : Int32)), (.ref x530)]) (lenOf pd_II_R_D rfl) rfl rfl (Nat.le_of_eq rfl) (by rw [hml]; rfl) (by decide) (by decide) (W.Pure.ok P530.chv) at_165 rfl ?_
    intro v531 T531 h531 L531 q531 P531
    obtain ⟨rfl, rfl, rfl⟩ := q531
    show W.Go p.tables e below _ (T531.setTop (mkF m 168 #[.val (.int pr), .val (.int vl), .val (.int fc), .val (.int dn), .val (.int (11 : Int32)), .val (.int (3 : Int32)), .val (.ref t519), .val (.ref t520), .val (.int (3 : Int32)), .val (.ref x530), .unset, .unset, .unset] [(.double (FP.i2d (own_db dn 0))), (.int (0 : Int32)), (.ref x530)]))
    refine P531.stD (pc1 := 169) (i := 0) V530 (by decide) (by decide) (Nat.le_of_ble_eq_true rfl) rfl (Or.inr (by rw [g530]; exact P529.sz)) (Safe.arv P531.al V530 (by decide)) at_168 rfl ?_
    intro T532 h532 P532 W532 V532
    have Vd532 := Vd530.other W532 hdz
    have Vf532 := Vf530.other W532 hfz
    refine W.g_aload (pc1 := 171) P532.q at_169 rfl rfl rfl ?_
    refine W.g_iconst (pc1 := 172) (v := (1 : Int32)) P532.q at_171 (by decide) rfl ?_
    refine W.g_iloadN (pc1 := 173) P532.q at_172 rfl rfl ?_
    refine W.g_iconst (pc1 := 174) (v := (1 : Int32)) P532.q at_173 (by decide) rfl ?_
    refine P532.callS (pc1 := 177) (wd hw (k := 10) rfl) (wd hw (k := 11) rfl) (wd hw (k := 2) rfl) (wd hw (k := 12) rfl) (by decide) (W.MetN.pay (W := 2) (c_dv l Z a0 hw dn 1 h532) P532 (wd hw (k := 12) rfl) (wd hw (k := 2) rfl) (by decide) (by decide)) (argsL := [(.int dn), (.int (1 : Int32))]) (st0 := [(.int (1 : Int32)), (.ref x530)]) (lenOf pd_II_R_D rfl) rfl rfl (Nat.le_of_eq rfl) (by rw [hml]; rfl) (by decide) (by decide) (W.Pure.ok P532.chv) at_174 rfl ?_
    intro v533 T533 h533 L533 q533 P533
    obtain ⟨rfl, rfl, rfl⟩ := q533
    show W.Go p.tables e below _ (T533.setTop (mkF m 177 #[.val (.int pr), .val (.int vl), .val (.int fc), .val (.int dn), .val (.int (11 : Int32)), .val (.int (3 : Int32)), .val (.ref t519), .val (.ref t520), .val (.int (3 : Int32)), .val (.ref x530), .unset, .unset, .unset] [(.double (FP.i2d (own_db dn 1))), (.int (1 : Int32)), (.ref x530)]))
    refine P533.stD (pc1 := 178) (i := 1) V532 (by decide) (by decide) (Nat.le_of_ble_eq_true rfl) rfl (Or.inr (by rw [g530]; exact P529.sz)) (Safe.arv P533.al V532 (by decide)) at_177 rfl ?_
    intro T534 h534 P534 W534 V534
    have Vd534 := Vd532.other W534 hdz
    have Vf534 := Vf532.other W534 hfz
    refine W.g_aload (pc1 := 180) P534.q at_178 rfl rfl rfl ?_
    refine W.g_iconst (pc1 := 181) (v := (2 : Int32)) P534.q at_180 (by decide) rfl ?_
    refine W.g_iloadN (pc1 := 182) P534.q at_181 rfl rfl ?_
    refine W.g_iconst (pc1 := 183) (v := (2 : Int32)) P534.q at_182 (by decide) rfl ?_
    refine P534.callS (pc1 := 186) (wd hw (k := 10) rfl) (wd hw (k := 11) rfl) (wd hw (k := 2) rfl) (wd hw (k := 12) rfl) (by decide) (W.MetN.pay (W := 2) (c_dv l Z a0 hw dn 2 h534) P534 (wd hw (k := 12) rfl) (wd hw (k := 2) rfl) (by decide) (by decide)) (argsL := [(.int dn), (.int (2 : Int32))]) (st0 := [(.int (2 : Int32)), (.ref x530)]) (lenOf pd_II_R_D rfl) rfl rfl (Nat.le_of_eq rfl) (by rw [hml]; rfl) (by decide) (by decide) (W.Pure.ok P534.chv) at_183 rfl ?_
    intro v535 T535 h535 L535 q535 P535
    obtain ⟨rfl, rfl, rfl⟩ := q535
    show W.Go p.tables e below _ (T535.setTop (mkF m 186 #[.val (.int pr), .val (.int vl), .val (.int fc), .val (.int dn), .val (.int (11 : Int32)), .val (.int (3 : Int32)), .val (.ref t519), .val (.ref t520), .val (.int (3 : Int32)), .val (.ref x530), .unset, .unset, .unset] [(.double (FP.i2d (own_db dn 2))), (.int (2 : Int32)), (.ref x530)]))
    refine P535.stD (pc1 := 187) (i := 2) V534 (by decide) (by decide) (Nat.le_of_ble_eq_true rfl) rfl (Or.inr (by rw [g530]; exact P529.sz)) (Safe.arv P535.al V534 (by decide)) at_186 rfl ?_
    intro T536 h536 P536 W536 V536
    have Vd536 := Vd534.other W536 hdz
    have Vf536 := Vf534.other W536 hfz
    refine W.g_aload (pc1 := 189) P536.q at_187 rfl rfl rfl ?_
    refine W.g_iconst (pc1 := 190) (v := (3 : Int32)) P536.q at_189 (by decide) rfl ?_
    refine W.g_iloadN (pc1 := 191) P536.q at_190 rfl rfl ?_
    refine W.g_iconst (pc1 := 192) (v := (3 : Int32)) P536.q at_191 (by decide) rfl ?_
    refine P536.callS (pc1 := 195) (wd hw (k := 10) rfl) (wd hw (k := 11) rfl) (wd hw (k := 2) rfl) (wd hw (k := 12) rfl) (by decide) (W.MetN.pay (W := 2) (c_dv l Z a0 hw dn 3 h536) P536 (wd hw (k := 12) rfl) (wd hw (k := 2) rfl) (by decide) (by decide)) (argsL := [(.int dn), (.int (3 : Int32))]) (st0 := [(.int (3 : Int32)), (.ref x530)]) (lenOf pd_II_R_D rfl) rfl rfl (Nat.le_of_eq rfl) (by rw [hml]; rfl) (by decide) (by decide) (W.Pure.ok P536.chv) at_192 rfl ?_
    intro v537 T537 h537 L537 q537 P537
    obtain ⟨rfl, rfl, rfl⟩ := q537
    show W.Go p.tables e below _ (T537.setTop (mkF m 195 #[.val (.int pr), .val (.int vl), .val (.int fc), .val (.int dn), .val (.int (11 : Int32)), .val (.int (3 : Int32)), .val (.ref t519), .val (.ref t520), .val (.int (3 : Int32)), .val (.ref x530), .unset, .unset, .unset] [(.double (FP.i2d (own_db dn 3))), (.int (3 : Int32)), (.ref x530)]))
    refine P537.stD (pc1 := 196) (i := 3) V536 (by decide) (by decide) (Nat.le_of_ble_eq_true rfl) rfl (Or.inr (by rw [g530]; exact P529.sz)) (Safe.arv P537.al V536 (by decide)) at_195 rfl ?_
    intro T538 h538 P538 W538 V538
    have Vd538 := Vd536.other W538 hdz
    have Vf538 := Vf536.other W538 hfz
    refine W.g_iloadN (pc1 := 197) P538.q at_196 rfl rfl ?_
    refine W.g_i2d (pc1 := 198) P538.q at_197 rfl ?_
    refine W.g_dstore (pc1 := 200) (ls2 := #[.val (.int pr), .val (.int vl), .val (.int fc), .val (.int dn), .val (.int (11 : Int32)), .val (.int (3 : Int32)), .val (.ref t519), .val (.ref t520), .val (.int (3 : Int32)), .val (.ref x530), .val (.double (FP.i2d fc)), .second, .unset]) P538.q at_198 rfl rfl ?_
    refine P538.newO (pc1 := 203) (wd hw (k := 13) rfl) (wd hw (k := 14) rfl) (wd hw (k := 15) rfl) (by decide) (by decide) at_200 rfl ?_
    intro T539 h539 x539 g539 P539 E539 A539 D539 U539
    refine W.g_dup (pc1 := 204) P539.q at_203 rfl rfl ?_
    refine W.g_aload (pc1 := 206) P539.q at_204 rfl rfl rfl ?_
    refine W.g_aload (pc1 := 208) P539.q at_206 rfl rfl rfl ?_
    have Ndimensions : Fld Z h539 x539 "com/example/intent_search/intentsearch/rank/CategoryVector" "dimensions" "[I" .null := D539 (Or.inr (wd hw (k := 23) rfl)) (ty := (.array .int)) (by decide)
    have Nvalues : Fld Z h539 x539 "com/example/intent_search/intentsearch/rank/CategoryVector" "values" "[F" .null := D539 (Or.inr (wd hw (k := 25) rfl)) (ty := (.array .float)) (by decide)
    refine P539.callN (pc1 := 211) rfl (wd hw (k := 16) rfl) (wd hw (k := 17) rfl) (wd hw (k := 18) rfl) (by decide) (W.MetN.pay (W := 1) (c_cv l Z a0 hw x539 t519 t520 h539 A539 _ Ndimensions _ Nvalues) P539 (wd hw (k := 18) rfl) (wd hw (k := 15) rfl) (by decide) (by decide)) (argsL := [(.ref t519), (.ref t520)]) (st0 := [(.ref x539)]) (lenOf pd_AIAF_R_V rfl) rfl rfl (Nat.le_of_eq rfl) (by rw [hml]; rfl) (by decide) (by decide) (fun _ _ _ q => ⟨q.2.1.up P539.sz (allS (Or.inr (by rw [g539]; exact P538.sz)) all0), CHr.keep q.2.2.1 (sfS (Safe.exa P539.al A539 (by decide) (by decide)) sf0) P539.chv⟩) at_208 rfl ?_
    intro v540 T540 h540 L540 q540 P540
    obtain ⟨rfl, f540, K540, A540, Fd540, Fv540⟩ := q540
    show W.Go p.tables e below _ (T540.setTop (mkF m 211 #[.val (.int pr), .val (.int vl), .val (.int fc), .val (.int dn), .val (.int (11 : Int32)), .val (.int (3 : Int32)), .val (.ref t519), .val (.ref t520), .val (.int (3 : Int32)), .val (.ref x530), .val (.double (FP.i2d fc)), .second, .unset] [(.ref x539)]))
    have Vdq := (Vd538.ext E539).keep K540 (ninS (Ne.symm (Exa.neArv A539 (Vd538.ext E539) (wd hw (k := 14) rfl))) nin0)
    have Vfq := (Vf538.ext E539).keep K540 (ninS (Ne.symm (Exa.neArv A539 (Vf538.ext E539) (wd hw (k := 14) rfl))) nin0)
    have Vzq := (V538.ext E539).keep K540 (ninS (Ne.symm (Exa.neArv A539 (V538.ext E539) (wd hw (k := 14) rfl))) nin0)
    have hxz : x539 ≠ x530 := Exa.neArv A540 Vzq (wd hw (k := 14) rfl)
    refine W.g_astore (pc1 := 213) (ls2 := #[.val (.int pr), .val (.int vl), .val (.int fc), .val (.int dn), .val (.int (11 : Int32)), .val (.int (3 : Int32)), .val (.ref t519), .val (.ref t520), .val (.int (3 : Int32)), .val (.ref x530), .val (.double (FP.i2d fc)), .second, .val (.ref x539)]) P540.q at_211 rfl rfl rfl ?_
    refine W.g_aload (pc1 := 215) P540.q at_213 rfl rfl rfl ?_
    refine W.g_aload (pc1 := 217) P540.q at_215 rfl rfl rfl ?_
    refine W.g_dload (pc1 := 219) P540.q at_217 rfl rfl ?_
    have ok0 := own_one (f := fc) (own_dbb dn 0) (own_vbb vl 0)
    have ok1 := own_one (f := fc) (own_dbb dn 1) (own_vbb vl 1)
    have ok2 := own_one (f := fc) (own_dbb dn 2) (own_vbb vl 2)
    have ok3 := own_one (f := fc) (own_dbb dn 3) (own_vbb vl 3)
    refine P540.callV (pc1 := 222) A540 (wd hw (k := 26) rfl) (wd hw (k := 27) rfl) (wd hw (k := 29) rfl) (wd hw (k := 28) rfl) (notFace_of_selects (args := #[]) (mvT P540.hz (wd hw (k := 29) rfl))) (by decide) (W.MetN.pay (W := 0) (c_add11 l Z a0 hw x539 t519 t520 x530 _ _ _ (FP.i2d (own_db dn 0)) (FP.i2d (own_db dn 1)) (FP.i2d (own_db dn 2)) (FP.i2d (own_db dn 3)) (FP.i2d fc) (FP.i2f (own_vb vl 0)) ok0.1 ok0.2.1 ok0.2.2 (FP.i2f (own_vb vl 1)) ok1.1 ok1.2.1 ok1.2.2 (FP.i2f (own_vb vl 3)) ok3.1 ok3.2.1 ok3.2.2 h540 A540 Fd540 Fv540 Vdq Vfq Vzq hdz hfz hxz) P540 (wd hw (k := 30) rfl) (wd hw (k := 15) rfl) (by decide) (by decide)) (argsL := [(.ref x530), (.double (FP.i2d fc))]) (st0 := []) (lenOf pd_ADD_R_V rfl) rfl rfl (Nat.le_of_eq rfl) (by rw [hml]; rfl) (by decide) (by decide) (fun _ _ _ q => ⟨q.2.1.up P540.sz (allS (Or.inr (by rw [g530]; exact P529.sz)) all0), CHr.keep q.2.2.1 (sfS (Safe.arv P540.al Vzq (by decide)) sf0) P540.chv⟩) at_219 rfl ?_
    intro v541 T541 h541 L541 q541 P541
    obtain ⟨rfl, f541, K541, V541⟩ := q541
    show W.Go p.tables e below _ (T541.setTop (mkF m 222 #[.val (.int pr), .val (.int vl), .val (.int fc), .val (.int dn), .val (.int (11 : Int32)), .val (.int (3 : Int32)), .val (.ref t519), .val (.ref t520), .val (.int (3 : Int32)), .val (.ref x530), .val (.double (FP.i2d fc)), .second, .val (.ref x539)] []))
    refine W.g_aload (pc1 := 224) P541.q at_222 rfl rfl rfl ?_
    refine W.g_iconst (pc1 := 225) (v := (0 : Int32)) P541.q at_224 (by decide) rfl ?_
    refine W.g_iload (pc1 := 227) P541.q at_225 rfl rfl ?_
    refine W.g_iloadN (pc1 := 228) P541.q at_227 rfl rfl ?_
    refine W.g_iloadN (pc1 := 229) P541.q at_228 rfl rfl ?_
    refine W.g_dload (pc1 := 231) P541.q at_229 rfl rfl ?_
    refine P541.callS (pc1 := 234) (wd hw (k := 31) rfl) (wd hw (k := 32) rfl) (wd hw (k := 2) rfl) (wd hw (k := 33) rfl) (by decide) (W.MetN.pay (W := 0) (c_chk01 l Z a0 hw x530 _ _ _ _ _ (FP.i2d fc) 11 vl dn (by decide) ok0.1 ok0.2.1 ok0.2.2 (dcmpV_self ok0.2.2 .l) h541 V541) P541 (wd hw (k := 33) rfl) (wd hw (k := 2) rfl) (by decide) (by decide)) (argsL := [(.ref x530), (.int (0 : Int32)), (.int (11 : Int32)), (.int vl), (.int dn), (.double (FP.i2d fc))]) (st0 := []) (lenOf pd_ADIIIID_R_Z rfl) rfl rfl (Nat.le_of_eq rfl) (by rw [hml]; rfl) (by decide) (by decide) (W.Pure.ok P541.chv) at_231 rfl ?_
    intro v542 T542 h542 L542 q542 P542
    obtain ⟨rfl, rfl, rfl⟩ := q542
    show W.Go p.tables e below _ (T542.setTop (mkF m 234 #[.val (.int pr), .val (.int vl), .val (.int fc), .val (.int dn), .val (.int (11 : Int32)), .val (.int (3 : Int32)), .val (.ref t519), .val (.ref t520), .val (.int (3 : Int32)), .val (.ref x530), .val (.double (FP.i2d fc)), .second, .val (.ref x539)] [(.int (1 : Int32))]))
    refine W.g_ifN (pc2 := 237) P542.q at_234 rfl (by decide) ?_
    refine W.g_aload (pc1 := 239) P542.q at_237 rfl rfl rfl ?_
    refine W.g_iconst (pc1 := 240) (v := (1 : Int32)) P542.q at_239 (by decide) rfl ?_
    refine W.g_iload (pc1 := 242) P542.q at_240 rfl rfl ?_
    refine W.g_iloadN (pc1 := 243) P542.q at_242 rfl rfl ?_
    refine W.g_iloadN (pc1 := 244) P542.q at_243 rfl rfl ?_
    refine W.g_dload (pc1 := 246) P542.q at_244 rfl rfl ?_
    refine P542.callS (pc1 := 249) (wd hw (k := 31) rfl) (wd hw (k := 32) rfl) (wd hw (k := 2) rfl) (wd hw (k := 33) rfl) (by decide) (W.MetN.pay (W := 0) (c_chk11 l Z a0 hw x530 _ _ _ _ _ (FP.i2d fc) 11 vl dn (by decide) ok1.1 ok1.2.1 ok1.2.2 (dcmpV_self ok1.2.2 .l) h541 V541) P542 (wd hw (k := 33) rfl) (wd hw (k := 2) rfl) (by decide) (by decide)) (argsL := [(.ref x530), (.int (1 : Int32)), (.int (11 : Int32)), (.int vl), (.int dn), (.double (FP.i2d fc))]) (st0 := []) (lenOf pd_ADIIIID_R_Z rfl) rfl rfl (Nat.le_of_eq rfl) (by rw [hml]; rfl) (by decide) (by decide) (W.Pure.ok P542.chv) at_246 rfl ?_
    intro v543 T543 h543 L543 q543 P543
    obtain ⟨rfl, rfl, rfl⟩ := q543
    show W.Go p.tables e below _ (T543.setTop (mkF m 249 #[.val (.int pr), .val (.int vl), .val (.int fc), .val (.int dn), .val (.int (11 : Int32)), .val (.int (3 : Int32)), .val (.ref t519), .val (.ref t520), .val (.int (3 : Int32)), .val (.ref x530), .val (.double (FP.i2d fc)), .second, .val (.ref x539)] [(.int (1 : Int32))]))
    refine W.g_ifN (pc2 := 252) P543.q at_249 rfl (by decide) ?_
    refine W.g_aload (pc1 := 254) P543.q at_252 rfl rfl rfl ?_
    refine W.g_iconst (pc1 := 255) (v := (2 : Int32)) P543.q at_254 (by decide) rfl ?_
    refine W.g_iload (pc1 := 257) P543.q at_255 rfl rfl ?_
    refine W.g_iloadN (pc1 := 258) P543.q at_257 rfl rfl ?_
    refine W.g_iloadN (pc1 := 259) P543.q at_258 rfl rfl ?_
    refine W.g_dload (pc1 := 261) P543.q at_259 rfl rfl ?_
    refine P543.callS (pc1 := 264) (wd hw (k := 31) rfl) (wd hw (k := 32) rfl) (wd hw (k := 2) rfl) (wd hw (k := 33) rfl) (by decide) (W.MetN.pay (W := 0) (c_chk20 l Z a0 hw x530 _ _ _ _ _ (FP.i2d fc) 11 vl dn (by decide) own_self h541 V541) P543 (wd hw (k := 33) rfl) (wd hw (k := 2) rfl) (by decide) (by decide)) (argsL := [(.ref x530), (.int (2 : Int32)), (.int (11 : Int32)), (.int vl), (.int dn), (.double (FP.i2d fc))]) (st0 := []) (lenOf pd_ADIIIID_R_Z rfl) rfl rfl (Nat.le_of_eq rfl) (by rw [hml]; rfl) (by decide) (by decide) (W.Pure.ok P543.chv) at_261 rfl ?_
    intro v544 T544 h544 L544 q544 P544
    obtain ⟨rfl, rfl, rfl⟩ := q544
    show W.Go p.tables e below _ (T544.setTop (mkF m 264 #[.val (.int pr), .val (.int vl), .val (.int fc), .val (.int dn), .val (.int (11 : Int32)), .val (.int (3 : Int32)), .val (.ref t519), .val (.ref t520), .val (.int (3 : Int32)), .val (.ref x530), .val (.double (FP.i2d fc)), .second, .val (.ref x539)] [(.int (1 : Int32))]))
    refine W.g_ifN (pc2 := 267) P544.q at_264 rfl (by decide) ?_
    refine W.g_aload (pc1 := 269) P544.q at_267 rfl rfl rfl ?_
    refine W.g_iconst (pc1 := 270) (v := (3 : Int32)) P544.q at_269 (by decide) rfl ?_
    refine W.g_iload (pc1 := 272) P544.q at_270 rfl rfl ?_
    refine W.g_iloadN (pc1 := 273) P544.q at_272 rfl rfl ?_
    refine W.g_iloadN (pc1 := 274) P544.q at_273 rfl rfl ?_
    refine W.g_dload (pc1 := 276) P544.q at_274 rfl rfl ?_
    refine P544.callS (pc1 := 279) (wd hw (k := 31) rfl) (wd hw (k := 32) rfl) (wd hw (k := 2) rfl) (wd hw (k := 33) rfl) (by decide) (W.MetN.pay (W := 0) (c_chk31 l Z a0 hw x530 _ _ _ _ _ (FP.i2d fc) 11 vl dn (by decide) ok3.1 ok3.2.1 ok3.2.2 (dcmpV_self ok3.2.2 .l) h541 V541) P544 (wd hw (k := 33) rfl) (wd hw (k := 2) rfl) (by decide) (by decide)) (argsL := [(.ref x530), (.int (3 : Int32)), (.int (11 : Int32)), (.int vl), (.int dn), (.double (FP.i2d fc))]) (st0 := []) (lenOf pd_ADIIIID_R_Z rfl) rfl rfl (Nat.le_of_eq rfl) (by rw [hml]; rfl) (by decide) (by decide) (W.Pure.ok P544.chv) at_276 rfl ?_
    intro v545 T545 h545 L545 q545 P545
    obtain ⟨rfl, rfl, rfl⟩ := q545
    show W.Go p.tables e below _ (T545.setTop (mkF m 279 #[.val (.int pr), .val (.int vl), .val (.int fc), .val (.int dn), .val (.int (11 : Int32)), .val (.int (3 : Int32)), .val (.ref t519), .val (.ref t520), .val (.int (3 : Int32)), .val (.ref x530), .val (.double (FP.i2d fc)), .second, .val (.ref x539)] [(.int (1 : Int32))]))
    refine W.g_ifN (pc2 := 282) P545.q at_279 rfl (by decide) ?_
    refine W.g_iconst (pc1 := 283) (v := (1 : Int32)) P545.q at_282 (by decide) rfl ?_
    refine W.g_goto (pc1 := 287) P545.q at_283 (by decide) rfl ?_
    exact P545.retVN hlk hret (Or.inl rfl) at_287 (by decide) (by decide) ⟨rfl, P545.fr⟩
  · show W.Go p.tables e below _ (s₁.setTop (mkF m 4 #[.val (.int pr), .val (.int vl), .val (.int fc), .val (.int dn), .unset, .unset, .unset, .unset, .unset, .unset, .unset, .unset, .unset] [(.int (12 : Int32))]))
    refine W.g_istore (pc1 := 6) (ls2 := #[.val (.int pr), .val (.int vl), .val (.int fc), .val (.int dn), .val (.int (12 : Int32)), .unset, .unset, .unset, .unset, .unset, .unset, .unset, .unset]) P0.q at_4 rfl rfl ?_
    refine W.g_iload (pc1 := 8) P0.q at_6 rfl rfl ?_
    refine W.g_iconst (pc1 := 9) (v := (1 : Int32)) P0.q at_8 (by decide) rfl ?_
    refine W.g_iand (pc1 := 10) P0.q at_9 rfl ?_
    refine W.g_iload (pc1 := 12) P0.q at_10 rfl rfl ?_
    refine W.g_iconst (pc1 := 13) (v := (1 : Int32)) P0.q at_12 (by decide) rfl ?_
    refine W.g_ishr (pc1 := 14) P0.q at_13 rfl ?_
    refine W.g_iconst (pc1 := 15) (v := (1 : Int32)) P0.q at_14 (by decide) rfl ?_
    refine W.g_iand (pc1 := 16) P0.q at_15 rfl ?_
    refine W.g_iadd (pc1 := 17) P0.q at_16 rfl ?_
    refine W.g_iload (pc1 := 19) P0.q at_17 rfl rfl ?_
    refine W.g_iconst (pc1 := 20) (v := (2 : Int32)) P0.q at_19 (by decide) rfl ?_
    refine W.g_ishr (pc1 := 21) P0.q at_20 rfl ?_
    refine W.g_iconst (pc1 := 22) (v := (1 : Int32)) P0.q at_21 (by decide) rfl ?_
    refine W.g_iand (pc1 := 23) P0.q at_22 rfl ?_
    refine W.g_iadd (pc1 := 24) P0.q at_23 rfl ?_
    refine W.g_iload (pc1 := 26) P0.q at_24 rfl rfl ?_
    refine W.g_iconst (pc1 := 27) (v := (3 : Int32)) P0.q at_26 (by decide) rfl ?_
    refine W.g_ishr (pc1 := 28) P0.q at_27 rfl ?_
    refine W.g_iconst (pc1 := 29) (v := (1 : Int32)) P0.q at_28 (by decide) rfl ?_
    refine W.g_iand (pc1 := 30) P0.q at_29 rfl ?_
    refine W.g_iadd (pc1 := 31) P0.q at_30 rfl ?_
    rw [show (((((12 : Int32) &&& (1 : Int32)) + (((12 : Int32) >>> ((1 : Int32) &&& 31)) &&& (1 : Int32))) + (((12 : Int32) >>> ((2 : Int32) &&& 31)) &&& (1 : Int32))) + (((12 : Int32) >>> ((3 : Int32) &&& 31)) &&& (1 : Int32))) = (2 : Int32) from by decide]
    refine W.g_istore (pc1 := 33) (ls2 := #[.val (.int pr), .val (.int vl), .val (.int fc), .val (.int dn), .val (.int (12 : Int32)), .val (.int (2 : Int32)), .unset, .unset, .unset, .unset, .unset, .unset, .unset]) P0.q at_31 rfl rfl ?_
    refine W.g_iload (pc1 := 35) P0.q at_33 rfl rfl ?_
    refine P0.callS (pc1 := 38) (wd hw (k := 0) rfl) (wd hw (k := 1) rfl) (wd hw (k := 2) rfl) (wd hw (k := 3) rfl) (by decide) (W.MetN.pay (W := 0) (c_ni2 l Z a0 hw h0) P0 (wd hw (k := 3) rfl) (wd hw (k := 2) rfl) (by decide) (by decide)) (argsL := [(.int (2 : Int32))]) (st0 := []) (lenOf pd_I_R_AI rfl) rfl rfl (Nat.le_of_eq rfl) (by rw [hml]; rfl) (by decide) (by decide) (fun _ _ _ q => by obtain ⟨_, _, _, q2, q3, _⟩ := q; exact ⟨q2.up P0.sz all0, CHr.keep (W.Ext.toKeep q3 []) sf0 P0.chv⟩) at_35 rfl ?_
    intro v546 T546 h546 L546 q546 P546
    obtain ⟨t546, k546, rfl, f546, E546, g546, V546⟩ := q546
    show W.Go p.tables e below _ (T546.setTop (mkF m 38 #[.val (.int pr), .val (.int vl), .val (.int fc), .val (.int dn), .val (.int (12 : Int32)), .val (.int (2 : Int32)), .unset, .unset, .unset, .unset, .unset, .unset, .unset] [(.ref t546)]))
    refine W.g_astore (pc1 := 40) (ls2 := #[.val (.int pr), .val (.int vl), .val (.int fc), .val (.int dn), .val (.int (12 : Int32)), .val (.int (2 : Int32)), .val (.ref t546), .unset, .unset, .unset, .unset, .unset, .unset]) P546.q at_38 rfl rfl rfl ?_
    refine W.g_iload (pc1 := 42) P546.q at_40 rfl rfl ?_
    refine P546.callS (pc1 := 45) (wd hw (k := 5) rfl) (wd hw (k := 6) rfl) (wd hw (k := 2) rfl) (wd hw (k := 7) rfl) (by decide) (W.MetN.pay (W := 0) (c_nf2 l Z a0 hw h546) P546 (wd hw (k := 7) rfl) (wd hw (k := 2) rfl) (by decide) (by decide)) (argsL := [(.int (2 : Int32))]) (st0 := []) (lenOf pd_I_R_AF rfl) rfl rfl (Nat.le_of_eq rfl) (by rw [hml]; rfl) (by decide) (by decide) (fun _ _ _ q => by obtain ⟨_, _, _, q2, q3, _⟩ := q; exact ⟨q2.up P546.sz all0, CHr.keep (W.Ext.toKeep q3 []) sf0 P546.chv⟩) at_42 rfl ?_
    intro v547 T547 h547 L547 q547 P547
    obtain ⟨t547, k547, rfl, f547, E547, g547, V547⟩ := q547
    show W.Go p.tables e below _ (T547.setTop (mkF m 45 #[.val (.int pr), .val (.int vl), .val (.int fc), .val (.int dn), .val (.int (12 : Int32)), .val (.int (2 : Int32)), .val (.ref t546), .unset, .unset, .unset, .unset, .unset, .unset] [(.ref t547)]))
    have hdf : t546 ≠ t547 := Nat.ne_of_lt (Nat.lt_of_lt_of_le V546.lt g547)
    have Vd0 := V546.ext E547
    refine W.g_astore (pc1 := 47) (ls2 := #[.val (.int pr), .val (.int vl), .val (.int fc), .val (.int dn), .val (.int (12 : Int32)), .val (.int (2 : Int32)), .val (.ref t546), .val (.ref t547), .unset, .unset, .unset, .unset, .unset]) P547.q at_45 rfl rfl rfl ?_
    refine W.g_iconst (pc1 := 48) (v := (0 : Int32)) P547.q at_47 (by decide) rfl ?_
    refine W.g_istore (pc1 := 50) (ls2 := #[.val (.int pr), .val (.int vl), .val (.int fc), .val (.int dn), .val (.int (12 : Int32)), .val (.int (2 : Int32)), .val (.ref t546), .val (.ref t547), .val (.int (0 : Int32)), .unset, .unset, .unset, .unset]) P547.q at_48 rfl rfl ?_
    refine W.g_iload (pc1 := 52) P547.q at_50 rfl rfl ?_
    refine W.g_iconst (pc1 := 53) (v := (1 : Int32)) P547.q at_52 (by decide) rfl ?_
    refine W.g_iand (pc1 := 54) P547.q at_53 rfl ?_
    refine W.g_ifY (pc1 := 76) P547.q at_54 (by decide) rfl (by decide) ?_
    refine W.g_iload (pc1 := 78) P547.q at_76 rfl rfl ?_
    refine W.g_iconst (pc1 := 79) (v := (2 : Int32)) P547.q at_78 (by decide) rfl ?_
    refine W.g_iand (pc1 := 80) P547.q at_79 rfl ?_
    refine W.g_ifY (pc1 := 102) P547.q at_80 (by decide) rfl (by decide) ?_
    refine W.g_iload (pc1 := 104) P547.q at_102 rfl rfl ?_
    refine W.g_iconst (pc1 := 105) (v := (4 : Int32)) P547.q at_104 (by decide) rfl ?_
    refine W.g_iand (pc1 := 106) P547.q at_105 rfl ?_
    refine W.g_ifN (pc2 := 109) P547.q at_106 rfl (by decide) ?_
    refine W.g_aload (pc1 := 111) P547.q at_109 rfl rfl rfl ?_
    refine W.g_iload (pc1 := 113) P547.q at_111 rfl rfl ?_
    refine W.g_iconst (pc1 := 114) (v := (2 : Int32)) P547.q at_113 (by decide) rfl ?_
    refine P547.stI (pc1 := 115) (i := 0) Vd0 (by decide) (by decide) (Nat.le_of_ble_eq_true rfl) rfl (Or.inr (Nat.le_trans P0.sz g546)) (Safe.arv P547.al Vd0 (by decide)) at_114 rfl ?_
    intro T548 h548 P548 W548 V548
    have Vf548 := V547.other W548 (Ne.symm hdf)
    refine W.g_aload (pc1 := 117) P548.q at_115 rfl rfl rfl ?_
    refine W.g_iload (pc1 := 119) P548.q at_117 rfl rfl ?_
    refine W.g_iloadN (pc1 := 120) P548.q at_119 rfl rfl ?_
    refine W.g_iconst (pc1 := 121) (v := (2 : Int32)) P548.q at_120 (by decide) rfl ?_
    refine P548.callS (pc1 := 124) (wd hw (k := 34) rfl) (wd hw (k := 35) rfl) (wd hw (k := 2) rfl) (wd hw (k := 36) rfl) (by decide) (W.MetN.pay (W := 2) (c_val l Z a0 hw vl 2 h548) P548 (wd hw (k := 36) rfl) (wd hw (k := 2) rfl) (by decide) (by decide)) (argsL := [(.int vl), (.int (2 : Int32))]) (st0 := [(.int (0 : Int32)), (.ref t547)]) (lenOf pd_II_R_F rfl) rfl rfl (Nat.le_of_eq rfl) (by rw [hml]; rfl) (by decide) (by decide) (W.Pure.ok P548.chv) at_121 rfl ?_
    intro v549 T549 h549 L549 q549 P549
    obtain ⟨rfl, rfl, rfl⟩ := q549
    show W.Go p.tables e below _ (T549.setTop (mkF m 124 #[.val (.int pr), .val (.int vl), .val (.int fc), .val (.int dn), .val (.int (12 : Int32)), .val (.int (2 : Int32)), .val (.ref t546), .val (.ref t547), .val (.int (0 : Int32)), .unset, .unset, .unset, .unset] [(.float (FP.i2f (own_vb vl 2))), (.int (0 : Int32)), (.ref t547)]))
    refine P549.stF (pc1 := 125) (i := 0) Vf548 (by decide) (by decide) (Nat.le_of_ble_eq_true rfl) rfl (Or.inr (Nat.le_trans P546.sz g547)) (Safe.arv P549.al Vf548 (by decide)) at_124 rfl ?_
    intro T550 h550 P550 W550 V550
    have Vd550 := V548.other W550 hdf
    refine W.g_iinc (pc1 := 128) (ls2 := #[.val (.int pr), .val (.int vl), .val (.int fc), .val (.int dn), .val (.int (12 : Int32)), .val (.int (2 : Int32)), .val (.ref t546), .val (.ref t547), .val (.int ((0 : Int32) + Int32.ofInt 1)), .unset, .unset, .unset, .unset]) P550.q at_125 rfl rfl rfl ?_
    show W.Go p.tables e below _ (T550.setTop (mkF m 128 #[.val (.int pr), .val (.int vl), .val (.int fc), .val (.int dn), .val (.int (12 : Int32)), .val (.int (2 : Int32)), .val (.ref t546), .val (.ref t547), .val (.int (1 : Int32)), .unset, .unset, .unset, .unset] []))
    refine W.g_iload (pc1 := 130) P550.q at_128 rfl rfl ?_
    refine W.g_bipush (pc1 := 132) (v := (8 : Int32)) P550.q at_130 (by decide) rfl ?_
    refine W.g_iand (pc1 := 133) P550.q at_132 rfl ?_
    refine W.g_ifN (pc2 := 136) P550.q at_133 rfl (by decide) ?_
    refine W.g_aload (pc1 := 138) P550.q at_136 rfl rfl rfl ?_
    refine W.g_iload (pc1 := 140) P550.q at_138 rfl rfl ?_
    refine W.g_iconst (pc1 := 141) (v := (3 : Int32)) P550.q at_140 (by decide) rfl ?_
    refine P550.stI (pc1 := 142) (i := 1) Vd550 (by decide) (by decide) (Nat.le_of_ble_eq_true rfl) rfl (Or.inr (Nat.le_trans P0.sz g546)) (Safe.arv P550.al Vd550 (by decide)) at_141 rfl ?_
    intro T551 h551 P551 W551 V551
    have Vf551 := V550.other W551 (Ne.symm hdf)
    refine W.g_aload (pc1 := 144) P551.q at_142 rfl rfl rfl ?_
    refine W.g_iload (pc1 := 146) P551.q at_144 rfl rfl ?_
    refine W.g_iloadN (pc1 := 147) P551.q at_146 rfl rfl ?_
    refine W.g_iconst (pc1 := 148) (v := (3 : Int32)) P551.q at_147 (by decide) rfl ?_
    refine P551.callS (pc1 := 151) (wd hw (k := 34) rfl) (wd hw (k := 35) rfl) (wd hw (k := 2) rfl) (wd hw (k := 36) rfl) (by decide) (W.MetN.pay (W := 2) (c_val l Z a0 hw vl 3 h551) P551 (wd hw (k := 36) rfl) (wd hw (k := 2) rfl) (by decide) (by decide)) (argsL := [(.int vl), (.int (3 : Int32))]) (st0 := [(.int (1 : Int32)), (.ref t547)]) (lenOf pd_II_R_F rfl) rfl rfl (Nat.le_of_eq rfl) (by rw [hml]; rfl) (by decide) (by decide) (W.Pure.ok P551.chv) at_148 rfl ?_
    intro v552 T552 h552 L552 q552 P552
    obtain ⟨rfl, rfl, rfl⟩ := q552
    show W.Go p.tables e below _ (T552.setTop (mkF m 151 #[.val (.int pr), .val (.int vl), .val (.int fc), .val (.int dn), .val (.int (12 : Int32)), .val (.int (2 : Int32)), .val (.ref t546), .val (.ref t547), .val (.int (1 : Int32)), .unset, .unset, .unset, .unset] [(.float (FP.i2f (own_vb vl 3))), (.int (1 : Int32)), (.ref t547)]))
    refine P552.stF (pc1 := 152) (i := 1) Vf551 (by decide) (by decide) (Nat.le_of_ble_eq_true rfl) rfl (Or.inr (Nat.le_trans P546.sz g547)) (Safe.arv P552.al Vf551 (by decide)) at_151 rfl ?_
    intro T553 h553 P553 W553 V553
    have Vd553 := V551.other W553 hdf
    refine W.g_iinc (pc1 := 155) (ls2 := #[.val (.int pr), .val (.int vl), .val (.int fc), .val (.int dn), .val (.int (12 : Int32)), .val (.int (2 : Int32)), .val (.ref t546), .val (.ref t547), .val (.int ((1 : Int32) + Int32.ofInt 1)), .unset, .unset, .unset, .unset]) P553.q at_152 rfl rfl rfl ?_
    show W.Go p.tables e below _ (T553.setTop (mkF m 155 #[.val (.int pr), .val (.int vl), .val (.int fc), .val (.int dn), .val (.int (12 : Int32)), .val (.int (2 : Int32)), .val (.ref t546), .val (.ref t547), .val (.int (2 : Int32)), .unset, .unset, .unset, .unset] []))
    refine W.g_iconst (pc1 := 156) (v := (4 : Int32)) P553.q at_155 (by decide) rfl ?_
    refine P553.newP (pc1 := 158) (cap := 4) (wd hw (k := 9) rfl) (by decide) (by decide) (by decide) (by decide) (by decide) at_156 rfl ?_
    intro T554 h554 x554 k554 g554 P554 E554 V554
    have Vd554 := Vd553.ext E554
    have Vf554 := V553.ext E554
    have hdz : t546 ≠ x554 := Nat.ne_of_lt (by rw [g554]; exact Vd553.lt)
    have hfz : t547 ≠ x554 := Nat.ne_of_lt (by rw [g554]; exact V553.lt)
    refine W.g_astore (pc1 := 160) (ls2 := #[.val (.int pr), .val (.int vl), .val (.int fc), .val (.int dn), .val (.int (12 : Int32)), .val (.int (2 : Int32)), .val (.ref t546), .val (.ref t547), .val (.int (2 : Int32)), .val (.ref x554), .unset, .unset, .unset]) P554.q at_158 rfl rfl rfl ?_
    refine W.g_aload (pc1 := 162) P554.q at_160 rfl rfl rfl ?_
    refine W.g_iconst (pc1 := 163) (v := (0 : Int32)) P554.q at_162 (by decide) rfl ?_
    refine W.g_iloadN (pc1 := 164) P554.q at_163 rfl rfl ?_
    refine W.g_iconst (pc1 := 165) (v := (0 : Int32)) P554.q at_164 (by decide) rfl ?_
    refine P554.callS (pc1 := 168) (wd hw (k := 10) rfl) (wd hw (k := 11) rfl) (wd hw (k := 2) rfl) (wd hw (k := 12) rfl) (by decide) (W.MetN.pay (W := 2) (c_dv l Z a0 hw dn 0 h554) P554 (wd hw (k := 12) rfl) (wd hw (k := 2) rfl) (by decide) (by decide)) (argsL := [(.int dn), (.int (0 : Int32))]) (st0 := [(.int (0 : Int32)), (.ref x554)]) (lenOf pd_II_R_D rfl) rfl rfl (Nat.le_of_eq rfl) (by rw [hml]; rfl) (by decide) (by decide) (W.Pure.ok P554.chv) at_165 rfl ?_
    intro v555 T555 h555 L555 q555 P555
    obtain ⟨rfl, rfl, rfl⟩ := q555
    show W.Go p.tables e below _ (T555.setTop (mkF m 168 #[.val (.int pr), .val (.int vl), .val (.int fc), .val (.int dn), .val (.int (12 : Int32)), .val (.int (2 : Int32)), .val (.ref t546), .val (.ref t547), .val (.int (2 : Int32)), .val (.ref x554), .unset, .unset, .unset] [(.double (FP.i2d (own_db dn 0))), (.int (0 : Int32)), (.ref x554)]))
    refine P555.stD (pc1 := 169) (i := 0) V554 (by decide) (by decide) (Nat.le_of_ble_eq_true rfl) rfl (Or.inr (by rw [g554]; exact P553.sz)) (Safe.arv P555.al V554 (by decide)) at_168 rfl ?_
    intro T556 h556 P556 W556 V556
    have Vd556 := Vd554.other W556 hdz
    have Vf556 := Vf554.other W556 hfz
    refine W.g_aload (pc1 := 171) P556.q at_169 rfl rfl rfl ?_
    refine W.g_iconst (pc1 := 172) (v := (1 : Int32)) P556.q at_171 (by decide) rfl ?_
    refine W.g_iloadN (pc1 := 173) P556.q at_172 rfl rfl ?_
    refine W.g_iconst (pc1 := 174) (v := (1 : Int32)) P556.q at_173 (by decide) rfl ?_
    refine P556.callS (pc1 := 177) (wd hw (k := 10) rfl) (wd hw (k := 11) rfl) (wd hw (k := 2) rfl) (wd hw (k := 12) rfl) (by decide) (W.MetN.pay (W := 2) (c_dv l Z a0 hw dn 1 h556) P556 (wd hw (k := 12) rfl) (wd hw (k := 2) rfl) (by decide) (by decide)) (argsL := [(.int dn), (.int (1 : Int32))]) (st0 := [(.int (1 : Int32)), (.ref x554)]) (lenOf pd_II_R_D rfl) rfl rfl (Nat.le_of_eq rfl) (by rw [hml]; rfl) (by decide) (by decide) (W.Pure.ok P556.chv) at_174 rfl ?_
    intro v557 T557 h557 L557 q557 P557
    obtain ⟨rfl, rfl, rfl⟩ := q557
    show W.Go p.tables e below _ (T557.setTop (mkF m 177 #[.val (.int pr), .val (.int vl), .val (.int fc), .val (.int dn), .val (.int (12 : Int32)), .val (.int (2 : Int32)), .val (.ref t546), .val (.ref t547), .val (.int (2 : Int32)), .val (.ref x554), .unset, .unset, .unset] [(.double (FP.i2d (own_db dn 1))), (.int (1 : Int32)), (.ref x554)]))
    refine P557.stD (pc1 := 178) (i := 1) V556 (by decide) (by decide) (Nat.le_of_ble_eq_true rfl) rfl (Or.inr (by rw [g554]; exact P553.sz)) (Safe.arv P557.al V556 (by decide)) at_177 rfl ?_
    intro T558 h558 P558 W558 V558
    have Vd558 := Vd556.other W558 hdz
    have Vf558 := Vf556.other W558 hfz
    refine W.g_aload (pc1 := 180) P558.q at_178 rfl rfl rfl ?_
    refine W.g_iconst (pc1 := 181) (v := (2 : Int32)) P558.q at_180 (by decide) rfl ?_
    refine W.g_iloadN (pc1 := 182) P558.q at_181 rfl rfl ?_
    refine W.g_iconst (pc1 := 183) (v := (2 : Int32)) P558.q at_182 (by decide) rfl ?_
    refine P558.callS (pc1 := 186) (wd hw (k := 10) rfl) (wd hw (k := 11) rfl) (wd hw (k := 2) rfl) (wd hw (k := 12) rfl) (by decide) (W.MetN.pay (W := 2) (c_dv l Z a0 hw dn 2 h558) P558 (wd hw (k := 12) rfl) (wd hw (k := 2) rfl) (by decide) (by decide)) (argsL := [(.int dn), (.int (2 : Int32))]) (st0 := [(.int (2 : Int32)), (.ref x554)]) (lenOf pd_II_R_D rfl) rfl rfl (Nat.le_of_eq rfl) (by rw [hml]; rfl) (by decide) (by decide) (W.Pure.ok P558.chv) at_183 rfl ?_
    intro v559 T559 h559 L559 q559 P559
    obtain ⟨rfl, rfl, rfl⟩ := q559
    show W.Go p.tables e below _ (T559.setTop (mkF m 186 #[.val (.int pr), .val (.int vl), .val (.int fc), .val (.int dn), .val (.int (12 : Int32)), .val (.int (2 : Int32)), .val (.ref t546), .val (.ref t547), .val (.int (2 : Int32)), .val (.ref x554), .unset, .unset, .unset] [(.double (FP.i2d (own_db dn 2))), (.int (2 : Int32)), (.ref x554)]))
    refine P559.stD (pc1 := 187) (i := 2) V558 (by decide) (by decide) (Nat.le_of_ble_eq_true rfl) rfl (Or.inr (by rw [g554]; exact P553.sz)) (Safe.arv P559.al V558 (by decide)) at_186 rfl ?_
    intro T560 h560 P560 W560 V560
    have Vd560 := Vd558.other W560 hdz
    have Vf560 := Vf558.other W560 hfz
    refine W.g_aload (pc1 := 189) P560.q at_187 rfl rfl rfl ?_
    refine W.g_iconst (pc1 := 190) (v := (3 : Int32)) P560.q at_189 (by decide) rfl ?_
    refine W.g_iloadN (pc1 := 191) P560.q at_190 rfl rfl ?_
    refine W.g_iconst (pc1 := 192) (v := (3 : Int32)) P560.q at_191 (by decide) rfl ?_
    refine P560.callS (pc1 := 195) (wd hw (k := 10) rfl) (wd hw (k := 11) rfl) (wd hw (k := 2) rfl) (wd hw (k := 12) rfl) (by decide) (W.MetN.pay (W := 2) (c_dv l Z a0 hw dn 3 h560) P560 (wd hw (k := 12) rfl) (wd hw (k := 2) rfl) (by decide) (by decide)) (argsL := [(.int dn), (.int (3 : Int32))]) (st0 := [(.int (3 : Int32)), (.ref x554)]) (lenOf pd_II_R_D rfl) rfl rfl (Nat.le_of_eq rfl) (by rw [hml]; rfl) (by decide) (by decide) (W.Pure.ok P560.chv) at_192 rfl ?_
    intro v561 T561 h561 L561 q561 P561
    obtain ⟨rfl, rfl, rfl⟩ := q561
    show W.Go p.tables e below _ (T561.setTop (mkF m 195 #[.val (.int pr), .val (.int vl), .val (.int fc), .val (.int dn), .val (.int (12 : Int32)), .val (.int (2 : Int32)), .val (.ref t546), .val (.ref t547), .val (.int (2 : Int32)), .val (.ref x554), .unset, .unset, .unset] [(.double (FP.i2d (own_db dn 3))), (.int (3 : Int32)), (.ref x554)]))
    refine P561.stD (pc1 := 196) (i := 3) V560 (by decide) (by decide) (Nat.le_of_ble_eq_true rfl) rfl (Or.inr (by rw [g554]; exact P553.sz)) (Safe.arv P561.al V560 (by decide)) at_195 rfl ?_
    intro T562 h562 P562 W562 V562
    have Vd562 := Vd560.other W562 hdz
    have Vf562 := Vf560.other W562 hfz
    refine W.g_iloadN (pc1 := 197) P562.q at_196 rfl rfl ?_
    refine W.g_i2d (pc1 := 198) P562.q at_197 rfl ?_
    refine W.g_dstore (pc1 := 200) (ls2 := #[.val (.int pr), .val (.int vl), .val (.int fc), .val (.int dn), .val (.int (12 : Int32)), .val (.int (2 : Int32)), .val (.ref t546), .val (.ref t547), .val (.int (2 : Int32)), .val (.ref x554), .val (.double (FP.i2d fc)), .second, .unset]) P562.q at_198 rfl rfl ?_
    refine P562.newO (pc1 := 203) (wd hw (k := 13) rfl) (wd hw (k := 14) rfl) (wd hw (k := 15) rfl) (by decide) (by decide) at_200 rfl ?_
    intro T563 h563 x563 g563 P563 E563 A563 D563 U563
    refine W.g_dup (pc1 := 204) P563.q at_203 rfl rfl ?_
    refine W.g_aload (pc1 := 206) P563.q at_204 rfl rfl rfl ?_
    refine W.g_aload (pc1 := 208) P563.q at_206 rfl rfl rfl ?_
    have Ndimensions : Fld Z h563 x563 "com/example/intent_search/intentsearch/rank/CategoryVector" "dimensions" "[I" .null := D563 (Or.inr (wd hw (k := 23) rfl)) (ty := (.array .int)) (by decide)
    have Nvalues : Fld Z h563 x563 "com/example/intent_search/intentsearch/rank/CategoryVector" "values" "[F" .null := D563 (Or.inr (wd hw (k := 25) rfl)) (ty := (.array .float)) (by decide)
    refine P563.callN (pc1 := 211) rfl (wd hw (k := 16) rfl) (wd hw (k := 17) rfl) (wd hw (k := 18) rfl) (by decide) (W.MetN.pay (W := 1) (c_cv l Z a0 hw x563 t546 t547 h563 A563 _ Ndimensions _ Nvalues) P563 (wd hw (k := 18) rfl) (wd hw (k := 15) rfl) (by decide) (by decide)) (argsL := [(.ref t546), (.ref t547)]) (st0 := [(.ref x563)]) (lenOf pd_AIAF_R_V rfl) rfl rfl (Nat.le_of_eq rfl) (by rw [hml]; rfl) (by decide) (by decide) (fun _ _ _ q => ⟨q.2.1.up P563.sz (allS (Or.inr (by rw [g563]; exact P562.sz)) all0), CHr.keep q.2.2.1 (sfS (Safe.exa P563.al A563 (by decide) (by decide)) sf0) P563.chv⟩) at_208 rfl ?_
    intro v564 T564 h564 L564 q564 P564
    obtain ⟨rfl, f564, K564, A564, Fd564, Fv564⟩ := q564
    show W.Go p.tables e below _ (T564.setTop (mkF m 211 #[.val (.int pr), .val (.int vl), .val (.int fc), .val (.int dn), .val (.int (12 : Int32)), .val (.int (2 : Int32)), .val (.ref t546), .val (.ref t547), .val (.int (2 : Int32)), .val (.ref x554), .val (.double (FP.i2d fc)), .second, .unset] [(.ref x563)]))
    have Vdq := (Vd562.ext E563).keep K564 (ninS (Ne.symm (Exa.neArv A563 (Vd562.ext E563) (wd hw (k := 14) rfl))) nin0)
    have Vfq := (Vf562.ext E563).keep K564 (ninS (Ne.symm (Exa.neArv A563 (Vf562.ext E563) (wd hw (k := 14) rfl))) nin0)
    have Vzq := (V562.ext E563).keep K564 (ninS (Ne.symm (Exa.neArv A563 (V562.ext E563) (wd hw (k := 14) rfl))) nin0)
    have hxz : x563 ≠ x554 := Exa.neArv A564 Vzq (wd hw (k := 14) rfl)
    refine W.g_astore (pc1 := 213) (ls2 := #[.val (.int pr), .val (.int vl), .val (.int fc), .val (.int dn), .val (.int (12 : Int32)), .val (.int (2 : Int32)), .val (.ref t546), .val (.ref t547), .val (.int (2 : Int32)), .val (.ref x554), .val (.double (FP.i2d fc)), .second, .val (.ref x563)]) P564.q at_211 rfl rfl rfl ?_
    refine W.g_aload (pc1 := 215) P564.q at_213 rfl rfl rfl ?_
    refine W.g_aload (pc1 := 217) P564.q at_215 rfl rfl rfl ?_
    refine W.g_dload (pc1 := 219) P564.q at_217 rfl rfl ?_
    have ok0 := own_one (f := fc) (own_dbb dn 0) (own_vbb vl 0)
    have ok1 := own_one (f := fc) (own_dbb dn 1) (own_vbb vl 1)
    have ok2 := own_one (f := fc) (own_dbb dn 2) (own_vbb vl 2)
    have ok3 := own_one (f := fc) (own_dbb dn 3) (own_vbb vl 3)
    refine P564.callV (pc1 := 222) A564 (wd hw (k := 26) rfl) (wd hw (k := 27) rfl) (wd hw (k := 29) rfl) (wd hw (k := 28) rfl) (notFace_of_selects (args := #[]) (mvT P564.hz (wd hw (k := 29) rfl))) (by decide) (W.MetN.pay (W := 0) (c_add12 l Z a0 hw x563 t546 t547 x554 _ _ _ (FP.i2d (own_db dn 0)) (FP.i2d (own_db dn 1)) (FP.i2d (own_db dn 2)) (FP.i2d (own_db dn 3)) (FP.i2d fc) (FP.i2f (own_vb vl 2)) ok2.1 ok2.2.1 ok2.2.2 (FP.i2f (own_vb vl 3)) ok3.1 ok3.2.1 ok3.2.2 h564 A564 Fd564 Fv564 Vdq Vfq Vzq hdz hfz hxz) P564 (wd hw (k := 30) rfl) (wd hw (k := 15) rfl) (by decide) (by decide)) (argsL := [(.ref x554), (.double (FP.i2d fc))]) (st0 := []) (lenOf pd_ADD_R_V rfl) rfl rfl (Nat.le_of_eq rfl) (by rw [hml]; rfl) (by decide) (by decide) (fun _ _ _ q => ⟨q.2.1.up P564.sz (allS (Or.inr (by rw [g554]; exact P553.sz)) all0), CHr.keep q.2.2.1 (sfS (Safe.arv P564.al Vzq (by decide)) sf0) P564.chv⟩) at_219 rfl ?_
    intro v565 T565 h565 L565 q565 P565
    obtain ⟨rfl, f565, K565, V565⟩ := q565
    show W.Go p.tables e below _ (T565.setTop (mkF m 222 #[.val (.int pr), .val (.int vl), .val (.int fc), .val (.int dn), .val (.int (12 : Int32)), .val (.int (2 : Int32)), .val (.ref t546), .val (.ref t547), .val (.int (2 : Int32)), .val (.ref x554), .val (.double (FP.i2d fc)), .second, .val (.ref x563)] []))
    refine W.g_aload (pc1 := 224) P565.q at_222 rfl rfl rfl ?_
    refine W.g_iconst (pc1 := 225) (v := (0 : Int32)) P565.q at_224 (by decide) rfl ?_
    refine W.g_iload (pc1 := 227) P565.q at_225 rfl rfl ?_
    refine W.g_iloadN (pc1 := 228) P565.q at_227 rfl rfl ?_
    refine W.g_iloadN (pc1 := 229) P565.q at_228 rfl rfl ?_
    refine W.g_dload (pc1 := 231) P565.q at_229 rfl rfl ?_
    refine P565.callS (pc1 := 234) (wd hw (k := 31) rfl) (wd hw (k := 32) rfl) (wd hw (k := 2) rfl) (wd hw (k := 33) rfl) (by decide) (W.MetN.pay (W := 0) (c_chk00 l Z a0 hw x554 _ _ _ _ _ (FP.i2d fc) 12 vl dn (by decide) own_self h565 V565) P565 (wd hw (k := 33) rfl) (wd hw (k := 2) rfl) (by decide) (by decide)) (argsL := [(.ref x554), (.int (0 : Int32)), (.int (12 : Int32)), (.int vl), (.int dn), (.double (FP.i2d fc))]) (st0 := []) (lenOf pd_ADIIIID_R_Z rfl) rfl rfl (Nat.le_of_eq rfl) (by rw [hml]; rfl) (by decide) (by decide) (W.Pure.ok P565.chv) at_231 rfl ?_
    intro v566 T566 h566 L566 q566 P566
    obtain ⟨rfl, rfl, rfl⟩ := q566
    show W.Go p.tables e below _ (T566.setTop (mkF m 234 #[.val (.int pr), .val (.int vl), .val (.int fc), .val (.int dn), .val (.int (12 : Int32)), .val (.int (2 : Int32)), .val (.ref t546), .val (.ref t547), .val (.int (2 : Int32)), .val (.ref x554), .val (.double (FP.i2d fc)), .second, .val (.ref x563)] [(.int (1 : Int32))]))
    refine W.g_ifN (pc2 := 237) P566.q at_234 rfl (by decide) ?_
    refine W.g_aload (pc1 := 239) P566.q at_237 rfl rfl rfl ?_
    refine W.g_iconst (pc1 := 240) (v := (1 : Int32)) P566.q at_239 (by decide) rfl ?_
    refine W.g_iload (pc1 := 242) P566.q at_240 rfl rfl ?_
    refine W.g_iloadN (pc1 := 243) P566.q at_242 rfl rfl ?_
    refine W.g_iloadN (pc1 := 244) P566.q at_243 rfl rfl ?_
    refine W.g_dload (pc1 := 246) P566.q at_244 rfl rfl ?_
    refine P566.callS (pc1 := 249) (wd hw (k := 31) rfl) (wd hw (k := 32) rfl) (wd hw (k := 2) rfl) (wd hw (k := 33) rfl) (by decide) (W.MetN.pay (W := 0) (c_chk10 l Z a0 hw x554 _ _ _ _ _ (FP.i2d fc) 12 vl dn (by decide) own_self h565 V565) P566 (wd hw (k := 33) rfl) (wd hw (k := 2) rfl) (by decide) (by decide)) (argsL := [(.ref x554), (.int (1 : Int32)), (.int (12 : Int32)), (.int vl), (.int dn), (.double (FP.i2d fc))]) (st0 := []) (lenOf pd_ADIIIID_R_Z rfl) rfl rfl (Nat.le_of_eq rfl) (by rw [hml]; rfl) (by decide) (by decide) (W.Pure.ok P566.chv) at_246 rfl ?_
    intro v567 T567 h567 L567 q567 P567
    obtain ⟨rfl, rfl, rfl⟩ := q567
    show W.Go p.tables e below _ (T567.setTop (mkF m 249 #[.val (.int pr), .val (.int vl), .val (.int fc), .val (.int dn), .val (.int (12 : Int32)), .val (.int (2 : Int32)), .val (.ref t546), .val (.ref t547), .val (.int (2 : Int32)), .val (.ref x554), .val (.double (FP.i2d fc)), .second, .val (.ref x563)] [(.int (1 : Int32))]))
    refine W.g_ifN (pc2 := 252) P567.q at_249 rfl (by decide) ?_
    refine W.g_aload (pc1 := 254) P567.q at_252 rfl rfl rfl ?_
    refine W.g_iconst (pc1 := 255) (v := (2 : Int32)) P567.q at_254 (by decide) rfl ?_
    refine W.g_iload (pc1 := 257) P567.q at_255 rfl rfl ?_
    refine W.g_iloadN (pc1 := 258) P567.q at_257 rfl rfl ?_
    refine W.g_iloadN (pc1 := 259) P567.q at_258 rfl rfl ?_
    refine W.g_dload (pc1 := 261) P567.q at_259 rfl rfl ?_
    refine P567.callS (pc1 := 264) (wd hw (k := 31) rfl) (wd hw (k := 32) rfl) (wd hw (k := 2) rfl) (wd hw (k := 33) rfl) (by decide) (W.MetN.pay (W := 0) (c_chk21 l Z a0 hw x554 _ _ _ _ _ (FP.i2d fc) 12 vl dn (by decide) ok2.1 ok2.2.1 ok2.2.2 (dcmpV_self ok2.2.2 .l) h565 V565) P567 (wd hw (k := 33) rfl) (wd hw (k := 2) rfl) (by decide) (by decide)) (argsL := [(.ref x554), (.int (2 : Int32)), (.int (12 : Int32)), (.int vl), (.int dn), (.double (FP.i2d fc))]) (st0 := []) (lenOf pd_ADIIIID_R_Z rfl) rfl rfl (Nat.le_of_eq rfl) (by rw [hml]; rfl) (by decide) (by decide) (W.Pure.ok P567.chv) at_261 rfl ?_
    intro v568 T568 h568 L568 q568 P568
    obtain ⟨rfl, rfl, rfl⟩ := q568
    show W.Go p.tables e below _ (T568.setTop (mkF m 264 #[.val (.int pr), .val (.int vl), .val (.int fc), .val (.int dn), .val (.int (12 : Int32)), .val (.int (2 : Int32)), .val (.ref t546), .val (.ref t547), .val (.int (2 : Int32)), .val (.ref x554), .val (.double (FP.i2d fc)), .second, .val (.ref x563)] [(.int (1 : Int32))]))
    refine W.g_ifN (pc2 := 267) P568.q at_264 rfl (by decide) ?_
    refine W.g_aload (pc1 := 269) P568.q at_267 rfl rfl rfl ?_
    refine W.g_iconst (pc1 := 270) (v := (3 : Int32)) P568.q at_269 (by decide) rfl ?_
    refine W.g_iload (pc1 := 272) P568.q at_270 rfl rfl ?_
    refine W.g_iloadN (pc1 := 273) P568.q at_272 rfl rfl ?_
    refine W.g_iloadN (pc1 := 274) P568.q at_273 rfl rfl ?_
    refine W.g_dload (pc1 := 276) P568.q at_274 rfl rfl ?_
    refine P568.callS (pc1 := 279) (wd hw (k := 31) rfl) (wd hw (k := 32) rfl) (wd hw (k := 2) rfl) (wd hw (k := 33) rfl) (by decide) (W.MetN.pay (W := 0) (c_chk31 l Z a0 hw x554 _ _ _ _ _ (FP.i2d fc) 12 vl dn (by decide) ok3.1 ok3.2.1 ok3.2.2 (dcmpV_self ok3.2.2 .l) h565 V565) P568 (wd hw (k := 33) rfl) (wd hw (k := 2) rfl) (by decide) (by decide)) (argsL := [(.ref x554), (.int (3 : Int32)), (.int (12 : Int32)), (.int vl), (.int dn), (.double (FP.i2d fc))]) (st0 := []) (lenOf pd_ADIIIID_R_Z rfl) rfl rfl (Nat.le_of_eq rfl) (by rw [hml]; rfl) (by decide) (by decide) (W.Pure.ok P568.chv) at_276 rfl ?_
    intro v569 T569 h569 L569 q569 P569
    obtain ⟨rfl, rfl, rfl⟩ := q569
    show W.Go p.tables e below _ (T569.setTop (mkF m 279 #[.val (.int pr), .val (.int vl), .val (.int fc), .val (.int dn), .val (.int (12 : Int32)), .val (.int (2 : Int32)), .val (.ref t546), .val (.ref t547), .val (.int (2 : Int32)), .val (.ref x554), .val (.double (FP.i2d fc)), .second, .val (.ref x563)] [(.int (1 : Int32))]))
    refine W.g_ifN (pc2 := 282) P569.q at_279 rfl (by decide) ?_
    refine W.g_iconst (pc1 := 283) (v := (1 : Int32)) P569.q at_282 (by decide) rfl ?_
    refine W.g_goto (pc1 := 287) P569.q at_283 (by decide) rfl ?_
    exact P569.retVN hlk hret (Or.inl rfl) at_287 (by decide) (by decide) ⟨rfl, P569.fr⟩
  · show W.Go p.tables e below _ (s₁.setTop (mkF m 4 #[.val (.int pr), .val (.int vl), .val (.int fc), .val (.int dn), .unset, .unset, .unset, .unset, .unset, .unset, .unset, .unset, .unset] [(.int (13 : Int32))]))
    refine W.g_istore (pc1 := 6) (ls2 := #[.val (.int pr), .val (.int vl), .val (.int fc), .val (.int dn), .val (.int (13 : Int32)), .unset, .unset, .unset, .unset, .unset, .unset, .unset, .unset]) P0.q at_4 rfl rfl ?_
    refine W.g_iload (pc1 := 8) P0.q at_6 rfl rfl ?_
    refine W.g_iconst (pc1 := 9) (v := (1 : Int32)) P0.q at_8 (by decide) rfl ?_
    refine W.g_iand (pc1 := 10) P0.q at_9 rfl ?_
    refine W.g_iload (pc1 := 12) P0.q at_10 rfl rfl ?_
    refine W.g_iconst (pc1 := 13) (v := (1 : Int32)) P0.q at_12 (by decide) rfl ?_
    refine W.g_ishr (pc1 := 14) P0.q at_13 rfl ?_
    refine W.g_iconst (pc1 := 15) (v := (1 : Int32)) P0.q at_14 (by decide) rfl ?_
    refine W.g_iand (pc1 := 16) P0.q at_15 rfl ?_
    refine W.g_iadd (pc1 := 17) P0.q at_16 rfl ?_
    refine W.g_iload (pc1 := 19) P0.q at_17 rfl rfl ?_
    refine W.g_iconst (pc1 := 20) (v := (2 : Int32)) P0.q at_19 (by decide) rfl ?_
    refine W.g_ishr (pc1 := 21) P0.q at_20 rfl ?_
    refine W.g_iconst (pc1 := 22) (v := (1 : Int32)) P0.q at_21 (by decide) rfl ?_
    refine W.g_iand (pc1 := 23) P0.q at_22 rfl ?_
    refine W.g_iadd (pc1 := 24) P0.q at_23 rfl ?_
    refine W.g_iload (pc1 := 26) P0.q at_24 rfl rfl ?_
    refine W.g_iconst (pc1 := 27) (v := (3 : Int32)) P0.q at_26 (by decide) rfl ?_
    refine W.g_ishr (pc1 := 28) P0.q at_27 rfl ?_
    refine W.g_iconst (pc1 := 29) (v := (1 : Int32)) P0.q at_28 (by decide) rfl ?_
    refine W.g_iand (pc1 := 30) P0.q at_29 rfl ?_
    refine W.g_iadd (pc1 := 31) P0.q at_30 rfl ?_
    rw [show (((((13 : Int32) &&& (1 : Int32)) + (((13 : Int32) >>> ((1 : Int32) &&& 31)) &&& (1 : Int32))) + (((13 : Int32) >>> ((2 : Int32) &&& 31)) &&& (1 : Int32))) + (((13 : Int32) >>> ((3 : Int32) &&& 31)) &&& (1 : Int32))) = (3 : Int32) from by decide]
    refine W.g_istore (pc1 := 33) (ls2 := #[.val (.int pr), .val (.int vl), .val (.int fc), .val (.int dn), .val (.int (13 : Int32)), .val (.int (3 : Int32)), .unset, .unset, .unset, .unset, .unset, .unset, .unset]) P0.q at_31 rfl rfl ?_
    refine W.g_iload (pc1 := 35) P0.q at_33 rfl rfl ?_
    refine P0.callS (pc1 := 38) (wd hw (k := 0) rfl) (wd hw (k := 1) rfl) (wd hw (k := 2) rfl) (wd hw (k := 3) rfl) (by decide) (W.MetN.pay (W := 0) (c_ni3 l Z a0 hw h0) P0 (wd hw (k := 3) rfl) (wd hw (k := 2) rfl) (by decide) (by decide)) (argsL := [(.int (3 : Int32))]) (st0 := []) (lenOf pd_I_R_AI rfl) rfl rfl (Nat.le_of_eq rfl) (by rw [hml]; rfl) (by decide) (by decide) (fun _ _ _ q => by obtain ⟨_, _, _, q2, q3, _⟩ := q; exact ⟨q2.up P0.sz all0, CHr.keep (W.Ext.toKeep q3 []) sf0 P0.chv⟩) at_35 rfl ?_
    intro v570 T570 h570 L570 q570 P570
    obtain ⟨t570, k570, rfl, f570, E570, g570, V570⟩ := q570
    show W.Go p.tables e below _ (T570.setTop (mkF m 38 #[.val (.int pr), .val (.int vl), .val (.int fc), .val (.int dn), .val (.int (13 : Int32)), .val (.int (3 : Int32)), .unset, .unset, .unset, .unset, .unset, .unset, .unset] [(.ref t570)]))
    refine W.g_astore (pc1 := 40) (ls2 := #[.val (.int pr), .val (.int vl), .val (.int fc), .val (.int dn), .val (.int (13 : Int32)), .val (.int (3 : Int32)), .val (.ref t570), .unset, .unset, .unset, .unset, .unset, .unset]) P570.q at_38 rfl rfl rfl ?_
    refine W.g_iload (pc1 := 42) P570.q at_40 rfl rfl ?_
    refine P570.callS (pc1 := 45) (wd hw (k := 5) rfl) (wd hw (k := 6) rfl) (wd hw (k := 2) rfl) (wd hw (k := 7) rfl) (by decide) (W.MetN.pay (W := 0) (c_nf3 l Z a0 hw h570) P570 (wd hw (k := 7) rfl) (wd hw (k := 2) rfl) (by decide) (by decide)) (argsL := [(.int (3 : Int32))]) (st0 := []) (lenOf pd_I_R_AF rfl) rfl rfl (Nat.le_of_eq rfl) (by rw [hml]; rfl) (by decide) (by decide) (fun _ _ _ q => by obtain ⟨_, _, _, q2, q3, _⟩ := q; exact ⟨q2.up P570.sz all0, CHr.keep (W.Ext.toKeep q3 []) sf0 P570.chv⟩) at_42 rfl ?_
    intro v571 T571 h571 L571 q571 P571
    obtain ⟨t571, k571, rfl, f571, E571, g571, V571⟩ := q571
    show W.Go p.tables e below _ (T571.setTop (mkF m 45 #[.val (.int pr), .val (.int vl), .val (.int fc), .val (.int dn), .val (.int (13 : Int32)), .val (.int (3 : Int32)), .val (.ref t570), .unset, .unset, .unset, .unset, .unset, .unset] [(.ref t571)]))
    have hdf : t570 ≠ t571 := Nat.ne_of_lt (Nat.lt_of_lt_of_le V570.lt g571)
    have Vd0 := V570.ext E571
    refine W.g_astore (pc1 := 47) (ls2 := #[.val (.int pr), .val (.int vl), .val (.int fc), .val (.int dn), .val (.int (13 : Int32)), .val (.int (3 : Int32)), .val (.ref t570), .val (.ref t571), .unset, .unset, .unset, .unset, .unset]) P571.q at_45 rfl rfl rfl ?_
    refine W.g_iconst (pc1 := 48) (v := (0 : Int32)) P571.q at_47 (by decide) rfl ?_
    refine W.g_istore (pc1 := 50) (ls2 := #[.val (.int pr), .val (.int vl), .val (.int fc), .val (.int dn), .val (.int (13 : Int32)), .val (.int (3 : Int32)), .val (.ref t570), .val (.ref t571), .val (.int (0 : Int32)), .unset, .unset, .unset, .unset]) P571.q at_48 rfl rfl ?_
    refine W.g_iload (pc1 := 52) P571.q at_50 rfl rfl ?_
    refine W.g_iconst (pc1 := 53) (v := (1 : Int32)) P571.q at_52 (by decide) rfl ?_
    refine W.g_iand (pc1 := 54) P571.q at_53 rfl ?_
    refine W.g_ifN (pc2 := 57) P571.q at_54 rfl (by decide) ?_
    refine W.g_aload (pc1 := 59) P571.q at_57 rfl rfl rfl ?_
    refine W.g_iload (pc1 := 61) P571.q at_59 rfl rfl ?_
    refine W.g_iconst (pc1 := 62) (v := (0 : Int32)) P571.q at_61 (by decide) rfl ?_
    refine P571.stI (pc1 := 63) (i := 0) Vd0 (by decide) (by decide) (Nat.le_of_ble_eq_true rfl) rfl (Or.inr (Nat.le_trans P0.sz g570)) (Safe.arv P571.al Vd0 (by decide)) at_62 rfl ?_
    intro T572 h572 P572 W572 V572
    have Vf572 := V571.other W572 (Ne.symm hdf)
    refine W.g_aload (pc1 := 65) P572.q at_63 rfl rfl rfl ?_
    refine W.g_iload (pc1 := 67) P572.q at_65 rfl rfl ?_
    refine W.g_iloadN (pc1 := 68) P572.q at_67 rfl rfl ?_
    refine W.g_iconst (pc1 := 69) (v := (0 : Int32)) P572.q at_68 (by decide) rfl ?_
    refine P572.callS (pc1 := 72) (wd hw (k := 34) rfl) (wd hw (k := 35) rfl) (wd hw (k := 2) rfl) (wd hw (k := 36) rfl) (by decide) (W.MetN.pay (W := 2) (c_val l Z a0 hw vl 0 h572) P572 (wd hw (k := 36) rfl) (wd hw (k := 2) rfl) (by decide) (by decide)) (argsL := [(.int vl), (.int (0 : Int32))]) (st0 := [(.int (0 : Int32)), (.ref t571)]) (lenOf pd_II_R_F rfl) rfl rfl (Nat.le_of_eq rfl) (by rw [hml]; rfl) (by decide) (by decide) (W.Pure.ok P572.chv) at_69 rfl ?_
    intro v573 T573 h573 L573 q573 P573
    obtain ⟨rfl, rfl, rfl⟩ := q573
    show W.Go p.tables e below _ (T573.setTop (mkF m 72 #[.val (.int pr), .val (.int vl), .val (.int fc), .val (.int dn), .val (.int (13 : Int32)), .val (.int (3 : Int32)), .val (.ref t570), .val (.ref t571), .val (.int (0 : Int32)), .unset, .unset, .unset, .unset] [(.float (FP.i2f (own_vb vl 0))), (.int (0 : Int32)), (.ref t571)]))
    refine P573.stF (pc1 := 73) (i := 0) Vf572 (by decide) (by decide) (Nat.le_of_ble_eq_true rfl) rfl (Or.inr (Nat.le_trans P570.sz g571)) (Safe.arv P573.al Vf572 (by decide)) at_72 rfl ?_
    intro T574 h574 P574 W574 V574
    have Vd574 := V572.other W574 hdf
    refine W.g_iinc (pc1 := 76) (ls2 := #[.val (.int pr), .val (.int vl), .val (.int fc), .val (.int dn), .val (.int (13 : Int32)), .val (.int (3 : Int32)), .val (.ref t570), .val (.ref t571), .val (.int ((0 : Int32) + Int32.ofInt 1)), .unset, .unset, .unset, .unset]) P574.q at_73 rfl rfl rfl ?_
    show W.Go p.tables e below _ (T574.setTop (mkF m 76 #[.val (.int pr), .val (.int vl), .val (.int fc), .val (.int dn), .val (.int (13 : Int32)), .val (.int (3 : Int32)), .val (.ref t570), .val (.ref t571), .val (.int (1 : Int32)), .unset, .unset, .unset, .unset] []))
    refine W.g_iload (pc1 := 78) P574.q at_76 rfl rfl ?_
    refine W.g_iconst (pc1 := 79) (v := (2 : Int32)) P574.q at_78 (by decide) rfl ?_
    refine W.g_iand (pc1 := 80) P574.q at_79 rfl ?_
    refine W.g_ifY (pc1 := 102) P574.q at_80 (by decide) rfl (by decide) ?_
    refine W.g_iload (pc1 := 104) P574.q at_102 rfl rfl ?_
    refine W.g_iconst (pc1 := 105) (v := (4 : Int32)) P574.q at_104 (by decide) rfl ?_
    refine W.g_iand (pc1 := 106) P574.q at_105 rfl ?_
    refine W.g_ifN (pc2 := 109) P574.q at_106 rfl (by decide) ?_
    refine W.g_aload (pc1 := 111) P574.q at_109 rfl rfl rfl ?_
    refine W.g_iload (pc1 := 113) P574.q at_111 rfl rfl ?_
    refine W.g_iconst (pc1 := 114) (v := (2 : Int32)) P574.q at_113 (by decide) rfl ?_
    refine P574.stI (pc1 := 115) (i := 1) Vd574 (by decide) (by decide) (Nat.le_of_ble_eq_true rfl) rfl (Or.inr (Nat.le_trans P0.sz g570)) (Safe.arv P574.al Vd574 (by decide)) at_114 rfl ?_
    intro T575 h575 P575 W575 V575
    have Vf575 := V574.other W575 (Ne.symm hdf)
    refine W.g_aload (pc1 := 117) P575.q at_115 rfl rfl rfl ?_
    refine W.g_iload (pc1 := 119) P575.q at_117 rfl rfl ?_
    refine W.g_iloadN (pc1 := 120) P575.q at_119 rfl rfl ?_
    refine W.g_iconst (pc1 := 121) (v := (2 : Int32)) P575.q at_120 (by decide) rfl ?_
    refine P575.callS (pc1 := 124) (wd hw (k := 34) rfl) (wd hw (k := 35) rfl) (wd hw (k := 2) rfl) (wd hw (k := 36) rfl) (by decide) (W.MetN.pay (W := 2) (c_val l Z a0 hw vl 2 h575) P575 (wd hw (k := 36) rfl) (wd hw (k := 2) rfl) (by decide) (by decide)) (argsL := [(.int vl), (.int (2 : Int32))]) (st0 := [(.int (1 : Int32)), (.ref t571)]) (lenOf pd_II_R_F rfl) rfl rfl (Nat.le_of_eq rfl) (by rw [hml]; rfl) (by decide) (by decide) (W.Pure.ok P575.chv) at_121 rfl ?_
    intro v576 T576 h576 L576 q576 P576
    obtain ⟨rfl, rfl, rfl⟩ := q576
    show W.Go p.tables e below _ (T576.setTop (mkF m 124 #[.val (.int pr), .val (.int vl), .val (.int fc), .val (.int dn), .val (.int (13 : Int32)), .val (.int (3 : Int32)), .val (.ref t570), .val (.ref t571), .val (.int (1 : Int32)), .unset, .unset, .unset, .unset] [(.float (FP.i2f (own_vb vl 2))), (.int (1 : Int32)), (.ref t571)]))
    refine P576.stF (pc1 := 125) (i := 1) Vf575 (by decide) (by decide) (Nat.le_of_ble_eq_true rfl) rfl (Or.inr (Nat.le_trans P570.sz g571)) (Safe.arv P576.al Vf575 (by decide)) at_124 rfl ?_
    intro T577 h577 P577 W577 V577
    have Vd577 := V575.other W577 hdf
    refine W.g_iinc (pc1 := 128) (ls2 := #[.val (.int pr), .val (.int vl), .val (.int fc), .val (.int dn), .val (.int (13 : Int32)), .val (.int (3 : Int32)), .val (.ref t570), .val (.ref t571), .val (.int ((1 : Int32) + Int32.ofInt 1)), .unset, .unset, .unset, .unset]) P577.q at_125 rfl rfl rfl ?_
    show W.Go p.tables e below _ (T577.setTop (mkF m 128 #[.val (.int pr), .val (.int vl), .val (.int fc), .val (.int dn), .val (.int (13 : Int32)), .val (.int (3 : Int32)), .val (.ref t570), .val (.ref t571), .val (.int (2 : Int32)), .unset, .unset, .unset, .unset] []))
    refine W.g_iload (pc1 := 130) P577.q at_128 rfl rfl ?_
    refine W.g_bipush (pc1 := 132) (v := (8 : Int32)) P577.q at_130 (by decide) rfl ?_
    refine W.g_iand (pc1 := 133) P577.q at_132 rfl ?_
    refine W.g_ifN (pc2 := 136) P577.q at_133 rfl (by decide) ?_
    refine W.g_aload (pc1 := 138) P577.q at_136 rfl rfl rfl ?_
    refine W.g_iload (pc1 := 140) P577.q at_138 rfl rfl ?_
    refine W.g_iconst (pc1 := 141) (v := (3 : Int32)) P577.q at_140 (by decide) rfl ?_
    refine P577.stI (pc1 := 142) (i := 2) Vd577 (by decide) (by decide) (Nat.le_of_ble_eq_true rfl) rfl (Or.inr (Nat.le_trans P0.sz g570)) (Safe.arv P577.al Vd577 (by decide)) at_141 rfl ?_
    intro T578 h578 P578 W578 V578
    have Vf578 := V577.other W578 (Ne.symm hdf)
    refine W.g_aload (pc1 := 144) P578.q at_142 rfl rfl rfl ?_
    refine W.g_iload (pc1 := 146) P578.q at_144 rfl rfl ?_
    refine W.g_iloadN (pc1 := 147) P578.q at_146 rfl rfl ?_
    refine W.g_iconst (pc1 := 148) (v := (3 : Int32)) P578.q at_147 (by decide) rfl ?_
    refine P578.callS (pc1 := 151) (wd hw (k := 34) rfl) (wd hw (k := 35) rfl) (wd hw (k := 2) rfl) (wd hw (k := 36) rfl) (by decide) (W.MetN.pay (W := 2) (c_val l Z a0 hw vl 3 h578) P578 (wd hw (k := 36) rfl) (wd hw (k := 2) rfl) (by decide) (by decide)) (argsL := [(.int vl), (.int (3 : Int32))]) (st0 := [(.int (2 : Int32)), (.ref t571)]) (lenOf pd_II_R_F rfl) rfl rfl (Nat.le_of_eq rfl) (by rw [hml]; rfl) (by decide) (by decide) (W.Pure.ok P578.chv) at_148 rfl ?_
    intro v579 T579 h579 L579 q579 P579
    obtain ⟨rfl, rfl, rfl⟩ := q579
    show W.Go p.tables e below _ (T579.setTop (mkF m 151 #[.val (.int pr), .val (.int vl), .val (.int fc), .val (.int dn), .val (.int (13 : Int32)), .val (.int (3 : Int32)), .val (.ref t570), .val (.ref t571), .val (.int (2 : Int32)), .unset, .unset, .unset, .unset] [(.float (FP.i2f (own_vb vl 3))), (.int (2 : Int32)), (.ref t571)]))
    refine P579.stF (pc1 := 152) (i := 2) Vf578 (by decide) (by decide) (Nat.le_of_ble_eq_true rfl) rfl (Or.inr (Nat.le_trans P570.sz g571)) (Safe.arv P579.al Vf578 (by decide)) at_151 rfl ?_
    intro T580 h580 P580 W580 V580
    have Vd580 := V578.other W580 hdf
    refine W.g_iinc (pc1 := 155) (ls2 := #[.val (.int pr), .val (.int vl), .val (.int fc), .val (.int dn), .val (.int (13 : Int32)), .val (.int (3 : Int32)), .val (.ref t570), .val (.ref t571), .val (.int ((2 : Int32) + Int32.ofInt 1)), .unset, .unset, .unset, .unset]) P580.q at_152 rfl rfl rfl ?_
    show W.Go p.tables e below _ (T580.setTop (mkF m 155 #[.val (.int pr), .val (.int vl), .val (.int fc), .val (.int dn), .val (.int (13 : Int32)), .val (.int (3 : Int32)), .val (.ref t570), .val (.ref t571), .val (.int (3 : Int32)), .unset, .unset, .unset, .unset] []))
    refine W.g_iconst (pc1 := 156) (v := (4 : Int32)) P580.q at_155 (by decide) rfl ?_
    refine P580.newP (pc1 := 158) (cap := 4) (wd hw (k := 9) rfl) (by decide) (by decide) (by decide) (by decide) (by decide) at_156 rfl ?_
    intro T581 h581 x581 k581 g581 P581 E581 V581
    have Vd581 := Vd580.ext E581
    have Vf581 := V580.ext E581
    have hdz : t570 ≠ x581 := Nat.ne_of_lt (by rw [g581]; exact Vd580.lt)
    have hfz : t571 ≠ x581 := Nat.ne_of_lt (by rw [g581]; exact V580.lt)
    refine W.g_astore (pc1 := 160) (ls2 := #[.val (.int pr), .val (.int vl), .val (.int fc), .val (.int dn), .val (.int (13 : Int32)), .val (.int (3 : Int32)), .val (.ref t570), .val (.ref t571), .val (.int (3 : Int32)), .val (.ref x581), .unset, .unset, .unset]) P581.q at_158 rfl rfl rfl ?_
    refine W.g_aload (pc1 := 162) P581.q at_160 rfl rfl rfl ?_
    refine W.g_iconst (pc1 := 163) (v := (0 : Int32)) P581.q at_162 (by decide) rfl ?_
    refine W.g_iloadN (pc1 := 164) P581.q at_163 rfl rfl ?_
    refine W.g_iconst (pc1 := 165) (v := (0 : Int32)) P581.q at_164 (by decide) rfl ?_
    refine P581.callS (pc1 := 168) (wd hw (k := 10) rfl) (wd hw (k := 11) rfl) (wd hw (k := 2) rfl) (wd hw (k := 12) rfl) (by decide) (W.MetN.pay (W := 2) (c_dv l Z a0 hw dn 0 h581) P581 (wd hw (k := 12) rfl) (wd hw (k := 2) rfl) (by decide) (by decide)) (argsL := [(.int dn), (.int (0 : Int32))]) (st0 := [(.int (0 : Int32)), (.ref x581)]) (lenOf pd_II_R_D rfl) rfl rfl (Nat.le_of_eq rfl) (by rw [hml]; rfl) (by decide) (by decide) (W.Pure.ok P581.chv) at_165 rfl ?_
    intro v582 T582 h582 L582 q582 P582
    obtain ⟨rfl, rfl, rfl⟩ := q582
    show W.Go p.tables e below _ (T582.setTop (mkF m 168 #[.val (.int pr), .val (.int vl), .val (.int fc), .val (.int dn), .val (.int (13 : Int32)), .val (.int (3 : Int32)), .val (.ref t570), .val (.ref t571), .val (.int (3 : Int32)), .val (.ref x581), .unset, .unset, .unset] [(.double (FP.i2d (own_db dn 0))), (.int (0 : Int32)), (.ref x581)]))
    refine P582.stD (pc1 := 169) (i := 0) V581 (by decide) (by decide) (Nat.le_of_ble_eq_true rfl) rfl (Or.inr (by rw [g581]; exact P580.sz)) (Safe.arv P582.al V581 (by decide)) at_168 rfl ?_
    intro T583 h583 P583 W583 V583
    have Vd583 := Vd581.other W583 hdz
    have Vf583 := Vf581.other W583 hfz
    refine W.g_aload (pc1 := 171) P583.q at_169 rfl rfl rfl ?_
    refine W.g_iconst (pc1 := 172) (v := (1 : Int32)) P583.q at_171 (by decide) rfl ?_
    refine W.g_iloadN (pc1 := 173) P583.q at_172 rfl rfl ?_
    refine W.g_iconst (pc1 := 174) (v := (1 : Int32)) P583.q at_173 (by decide) rfl ?_
    refine P583.callS (pc1 := 177) (wd hw (k := 10) rfl) (wd hw (k := 11) rfl) (wd hw (k := 2) rfl) (wd hw (k := 12) rfl) (by decide) (W.MetN.pay (W := 2) (c_dv l Z a0 hw dn 1 h583) P583 (wd hw (k := 12) rfl) (wd hw (k := 2) rfl) (by decide) (by decide)) (argsL := [(.int dn), (.int (1 : Int32))]) (st0 := [(.int (1 : Int32)), (.ref x581)]) (lenOf pd_II_R_D rfl) rfl rfl (Nat.le_of_eq rfl) (by rw [hml]; rfl) (by decide) (by decide) (W.Pure.ok P583.chv) at_174 rfl ?_
    intro v584 T584 h584 L584 q584 P584
    obtain ⟨rfl, rfl, rfl⟩ := q584
    show W.Go p.tables e below _ (T584.setTop (mkF m 177 #[.val (.int pr), .val (.int vl), .val (.int fc), .val (.int dn), .val (.int (13 : Int32)), .val (.int (3 : Int32)), .val (.ref t570), .val (.ref t571), .val (.int (3 : Int32)), .val (.ref x581), .unset, .unset, .unset] [(.double (FP.i2d (own_db dn 1))), (.int (1 : Int32)), (.ref x581)]))
    refine P584.stD (pc1 := 178) (i := 1) V583 (by decide) (by decide) (Nat.le_of_ble_eq_true rfl) rfl (Or.inr (by rw [g581]; exact P580.sz)) (Safe.arv P584.al V583 (by decide)) at_177 rfl ?_
    intro T585 h585 P585 W585 V585
    have Vd585 := Vd583.other W585 hdz
    have Vf585 := Vf583.other W585 hfz
    refine W.g_aload (pc1 := 180) P585.q at_178 rfl rfl rfl ?_
    refine W.g_iconst (pc1 := 181) (v := (2 : Int32)) P585.q at_180 (by decide) rfl ?_
    refine W.g_iloadN (pc1 := 182) P585.q at_181 rfl rfl ?_
    refine W.g_iconst (pc1 := 183) (v := (2 : Int32)) P585.q at_182 (by decide) rfl ?_
    refine P585.callS (pc1 := 186) (wd hw (k := 10) rfl) (wd hw (k := 11) rfl) (wd hw (k := 2) rfl) (wd hw (k := 12) rfl) (by decide) (W.MetN.pay (W := 2) (c_dv l Z a0 hw dn 2 h585) P585 (wd hw (k := 12) rfl) (wd hw (k := 2) rfl) (by decide) (by decide)) (argsL := [(.int dn), (.int (2 : Int32))]) (st0 := [(.int (2 : Int32)), (.ref x581)]) (lenOf pd_II_R_D rfl) rfl rfl (Nat.le_of_eq rfl) (by rw [hml]; rfl) (by decide) (by decide) (W.Pure.ok P585.chv) at_183 rfl ?_
    intro v586 T586 h586 L586 q586 P586
    obtain ⟨rfl, rfl, rfl⟩ := q586
    show W.Go p.tables e below _ (T586.setTop (mkF m 186 #[.val (.int pr), .val (.int vl), .val (.int fc), .val (.int dn), .val (.int (13 : Int32)), .val (.int (3 : Int32)), .val (.ref t570), .val (.ref t571), .val (.int (3 : Int32)), .val (.ref x581), .unset, .unset, .unset] [(.double (FP.i2d (own_db dn 2))), (.int (2 : Int32)), (.ref x581)]))
    refine P586.stD (pc1 := 187) (i := 2) V585 (by decide) (by decide) (Nat.le_of_ble_eq_true rfl) rfl (Or.inr (by rw [g581]; exact P580.sz)) (Safe.arv P586.al V585 (by decide)) at_186 rfl ?_
    intro T587 h587 P587 W587 V587
    have Vd587 := Vd585.other W587 hdz
    have Vf587 := Vf585.other W587 hfz
    refine W.g_aload (pc1 := 189) P587.q at_187 rfl rfl rfl ?_
    refine W.g_iconst (pc1 := 190) (v := (3 : Int32)) P587.q at_189 (by decide) rfl ?_
    refine W.g_iloadN (pc1 := 191) P587.q at_190 rfl rfl ?_
    refine W.g_iconst (pc1 := 192) (v := (3 : Int32)) P587.q at_191 (by decide) rfl ?_
    refine P587.callS (pc1 := 195) (wd hw (k := 10) rfl) (wd hw (k := 11) rfl) (wd hw (k := 2) rfl) (wd hw (k := 12) rfl) (by decide) (W.MetN.pay (W := 2) (c_dv l Z a0 hw dn 3 h587) P587 (wd hw (k := 12) rfl) (wd hw (k := 2) rfl) (by decide) (by decide)) (argsL := [(.int dn), (.int (3 : Int32))]) (st0 := [(.int (3 : Int32)), (.ref x581)]) (lenOf pd_II_R_D rfl) rfl rfl (Nat.le_of_eq rfl) (by rw [hml]; rfl) (by decide) (by decide) (W.Pure.ok P587.chv) at_192 rfl ?_
    intro v588 T588 h588 L588 q588 P588
    obtain ⟨rfl, rfl, rfl⟩ := q588
    show W.Go p.tables e below _ (T588.setTop (mkF m 195 #[.val (.int pr), .val (.int vl), .val (.int fc), .val (.int dn), .val (.int (13 : Int32)), .val (.int (3 : Int32)), .val (.ref t570), .val (.ref t571), .val (.int (3 : Int32)), .val (.ref x581), .unset, .unset, .unset] [(.double (FP.i2d (own_db dn 3))), (.int (3 : Int32)), (.ref x581)]))
    refine P588.stD (pc1 := 196) (i := 3) V587 (by decide) (by decide) (Nat.le_of_ble_eq_true rfl) rfl (Or.inr (by rw [g581]; exact P580.sz)) (Safe.arv P588.al V587 (by decide)) at_195 rfl ?_
    intro T589 h589 P589 W589 V589
    have Vd589 := Vd587.other W589 hdz
    have Vf589 := Vf587.other W589 hfz
    refine W.g_iloadN (pc1 := 197) P589.q at_196 rfl rfl ?_
    refine W.g_i2d (pc1 := 198) P589.q at_197 rfl ?_
    refine W.g_dstore (pc1 := 200) (ls2 := #[.val (.int pr), .val (.int vl), .val (.int fc), .val (.int dn), .val (.int (13 : Int32)), .val (.int (3 : Int32)), .val (.ref t570), .val (.ref t571), .val (.int (3 : Int32)), .val (.ref x581), .val (.double (FP.i2d fc)), .second, .unset]) P589.q at_198 rfl rfl ?_
    refine P589.newO (pc1 := 203) (wd hw (k := 13) rfl) (wd hw (k := 14) rfl) (wd hw (k := 15) rfl) (by decide) (by decide) at_200 rfl ?_
    intro T590 h590 x590 g590 P590 E590 A590 D590 U590
    refine W.g_dup (pc1 := 204) P590.q at_203 rfl rfl ?_
    refine W.g_aload (pc1 := 206) P590.q at_204 rfl rfl rfl ?_
    refine W.g_aload (pc1 := 208) P590.q at_206 rfl rfl rfl ?_
    have Ndimensions : Fld Z h590 x590 "com/example/intent_search/intentsearch/rank/CategoryVector" "dimensions" "[I" .null := D590 (Or.inr (wd hw (k := 23) rfl)) (ty := (.array .int)) (by decide)
    have Nvalues : Fld Z h590 x590 "com/example/intent_search/intentsearch/rank/CategoryVector" "values" "[F" .null := D590 (Or.inr (wd hw (k := 25) rfl)) (ty := (.array .float)) (by decide)
    refine P590.callN (pc1 := 211) rfl (wd hw (k := 16) rfl) (wd hw (k := 17) rfl) (wd hw (k := 18) rfl) (by decide) (W.MetN.pay (W := 1) (c_cv l Z a0 hw x590 t570 t571 h590 A590 _ Ndimensions _ Nvalues) P590 (wd hw (k := 18) rfl) (wd hw (k := 15) rfl) (by decide) (by decide)) (argsL := [(.ref t570), (.ref t571)]) (st0 := [(.ref x590)]) (lenOf pd_AIAF_R_V rfl) rfl rfl (Nat.le_of_eq rfl) (by rw [hml]; rfl) (by decide) (by decide) (fun _ _ _ q => ⟨q.2.1.up P590.sz (allS (Or.inr (by rw [g590]; exact P589.sz)) all0), CHr.keep q.2.2.1 (sfS (Safe.exa P590.al A590 (by decide) (by decide)) sf0) P590.chv⟩) at_208 rfl ?_
    intro v591 T591 h591 L591 q591 P591
    obtain ⟨rfl, f591, K591, A591, Fd591, Fv591⟩ := q591
    show W.Go p.tables e below _ (T591.setTop (mkF m 211 #[.val (.int pr), .val (.int vl), .val (.int fc), .val (.int dn), .val (.int (13 : Int32)), .val (.int (3 : Int32)), .val (.ref t570), .val (.ref t571), .val (.int (3 : Int32)), .val (.ref x581), .val (.double (FP.i2d fc)), .second, .unset] [(.ref x590)]))
    have Vdq := (Vd589.ext E590).keep K591 (ninS (Ne.symm (Exa.neArv A590 (Vd589.ext E590) (wd hw (k := 14) rfl))) nin0)
    have Vfq := (Vf589.ext E590).keep K591 (ninS (Ne.symm (Exa.neArv A590 (Vf589.ext E590) (wd hw (k := 14) rfl))) nin0)
    have Vzq := (V589.ext E590).keep K591 (ninS (Ne.symm (Exa.neArv A590 (V589.ext E590) (wd hw (k := 14) rfl))) nin0)
    have hxz : x590 ≠ x581 := Exa.neArv A591 Vzq (wd hw (k := 14) rfl)
    refine W.g_astore (pc1 := 213) (ls2 := #[.val (.int pr), .val (.int vl), .val (.int fc), .val (.int dn), .val (.int (13 : Int32)), .val (.int (3 : Int32)), .val (.ref t570), .val (.ref t571), .val (.int (3 : Int32)), .val (.ref x581), .val (.double (FP.i2d fc)), .second, .val (.ref x590)]) P591.q at_211 rfl rfl rfl ?_
    refine W.g_aload (pc1 := 215) P591.q at_213 rfl rfl rfl ?_
    refine W.g_aload (pc1 := 217) P591.q at_215 rfl rfl rfl ?_
    refine W.g_dload (pc1 := 219) P591.q at_217 rfl rfl ?_
    have ok0 := own_one (f := fc) (own_dbb dn 0) (own_vbb vl 0)
    have ok1 := own_one (f := fc) (own_dbb dn 1) (own_vbb vl 1)
    have ok2 := own_one (f := fc) (own_dbb dn 2) (own_vbb vl 2)
    have ok3 := own_one (f := fc) (own_dbb dn 3) (own_vbb vl 3)
    refine P591.callV (pc1 := 222) A591 (wd hw (k := 26) rfl) (wd hw (k := 27) rfl) (wd hw (k := 29) rfl) (wd hw (k := 28) rfl) (notFace_of_selects (args := #[]) (mvT P591.hz (wd hw (k := 29) rfl))) (by decide) (W.MetN.pay (W := 0) (c_add13 l Z a0 hw x590 t570 t571 x581 _ _ _ (FP.i2d (own_db dn 0)) (FP.i2d (own_db dn 1)) (FP.i2d (own_db dn 2)) (FP.i2d (own_db dn 3)) (FP.i2d fc) (FP.i2f (own_vb vl 0)) ok0.1 ok0.2.1 ok0.2.2 (FP.i2f (own_vb vl 2)) ok2.1 ok2.2.1 ok2.2.2 (FP.i2f (own_vb vl 3)) ok3.1 ok3.2.1 ok3.2.2 h591 A591 Fd591 Fv591 Vdq Vfq Vzq hdz hfz hxz) P591 (wd hw (k := 30) rfl) (wd hw (k := 15) rfl) (by decide) (by decide)) (argsL := [(.ref x581), (.double (FP.i2d fc))]) (st0 := []) (lenOf pd_ADD_R_V rfl) rfl rfl (Nat.le_of_eq rfl) (by rw [hml]; rfl) (by decide) (by decide) (fun _ _ _ q => ⟨q.2.1.up P591.sz (allS (Or.inr (by rw [g581]; exact P580.sz)) all0), CHr.keep q.2.2.1 (sfS (Safe.arv P591.al Vzq (by decide)) sf0) P591.chv⟩) at_219 rfl ?_
    intro v592 T592 h592 L592 q592 P592
    obtain ⟨rfl, f592, K592, V592⟩ := q592
    show W.Go p.tables e below _ (T592.setTop (mkF m 222 #[.val (.int pr), .val (.int vl), .val (.int fc), .val (.int dn), .val (.int (13 : Int32)), .val (.int (3 : Int32)), .val (.ref t570), .val (.ref t571), .val (.int (3 : Int32)), .val (.ref x581), .val (.double (FP.i2d fc)), .second, .val (.ref x590)] []))
    refine W.g_aload (pc1 := 224) P592.q at_222 rfl rfl rfl ?_
    refine W.g_iconst (pc1 := 225) (v := (0 : Int32)) P592.q at_224 (by decide) rfl ?_
    refine W.g_iload (pc1 := 227) P592.q at_225 rfl rfl ?_
    refine W.g_iloadN (pc1 := 228) P592.q at_227 rfl rfl ?_
    refine W.g_iloadN (pc1 := 229) P592.q at_228 rfl rfl ?_
    refine W.g_dload (pc1 := 231) P592.q at_229 rfl rfl ?_
    refine P592.callS (pc1 := 234) (wd hw (k := 31) rfl) (wd hw (k := 32) rfl) (wd hw (k := 2) rfl) (wd hw (k := 33) rfl) (by decide) (W.MetN.pay (W := 0) (c_chk01 l Z a0 hw x581 _ _ _ _ _ (FP.i2d fc) 13 vl dn (by decide) ok0.1 ok0.2.1 ok0.2.2 (dcmpV_self ok0.2.2 .l) h592 V592) P592 (wd hw (k := 33) rfl) (wd hw (k := 2) rfl) (by decide) (by decide)) (argsL := [(.ref x581), (.int (0 : Int32)), (.int (13 : Int32)), (.int vl), (.int dn), (.double (FP.i2d fc))]) (st0 := []) (lenOf pd_ADIIIID_R_Z rfl) rfl rfl (Nat.le_of_eq rfl) (by rw [hml]; rfl) (by decide) (by decide) (W.Pure.ok P592.chv) at_231 rfl ?_
    intro v593 T593 h593 L593 q593 P593
    obtain ⟨rfl, rfl, rfl⟩ := q593
    show W.Go p.tables e below _ (T593.setTop (mkF m 234 #[.val (.int pr), .val (.int vl), .val (.int fc), .val (.int dn), .val (.int (13 : Int32)), .val (.int (3 : Int32)), .val (.ref t570), .val (.ref t571), .val (.int (3 : Int32)), .val (.ref x581), .val (.double (FP.i2d fc)), .second, .val (.ref x590)] [(.int (1 : Int32))]))
    refine W.g_ifN (pc2 := 237) P593.q at_234 rfl (by decide) ?_
    refine W.g_aload (pc1 := 239) P593.q at_237 rfl rfl rfl ?_
    refine W.g_iconst (pc1 := 240) (v := (1 : Int32)) P593.q at_239 (by decide) rfl ?_
    refine W.g_iload (pc1 := 242) P593.q at_240 rfl rfl ?_
    refine W.g_iloadN (pc1 := 243) P593.q at_242 rfl rfl ?_
    refine W.g_iloadN (pc1 := 244) P593.q at_243 rfl rfl ?_
    refine W.g_dload (pc1 := 246) P593.q at_244 rfl rfl ?_
    refine P593.callS (pc1 := 249) (wd hw (k := 31) rfl) (wd hw (k := 32) rfl) (wd hw (k := 2) rfl) (wd hw (k := 33) rfl) (by decide) (W.MetN.pay (W := 0) (c_chk10 l Z a0 hw x581 _ _ _ _ _ (FP.i2d fc) 13 vl dn (by decide) own_self h592 V592) P593 (wd hw (k := 33) rfl) (wd hw (k := 2) rfl) (by decide) (by decide)) (argsL := [(.ref x581), (.int (1 : Int32)), (.int (13 : Int32)), (.int vl), (.int dn), (.double (FP.i2d fc))]) (st0 := []) (lenOf pd_ADIIIID_R_Z rfl) rfl rfl (Nat.le_of_eq rfl) (by rw [hml]; rfl) (by decide) (by decide) (W.Pure.ok P593.chv) at_246 rfl ?_
    intro v594 T594 h594 L594 q594 P594
    obtain ⟨rfl, rfl, rfl⟩ := q594
    show W.Go p.tables e below _ (T594.setTop (mkF m 249 #[.val (.int pr), .val (.int vl), .val (.int fc), .val (.int dn), .val (.int (13 : Int32)), .val (.int (3 : Int32)), .val (.ref t570), .val (.ref t571), .val (.int (3 : Int32)), .val (.ref x581), .val (.double (FP.i2d fc)), .second, .val (.ref x590)] [(.int (1 : Int32))]))
    refine W.g_ifN (pc2 := 252) P594.q at_249 rfl (by decide) ?_
    refine W.g_aload (pc1 := 254) P594.q at_252 rfl rfl rfl ?_
    refine W.g_iconst (pc1 := 255) (v := (2 : Int32)) P594.q at_254 (by decide) rfl ?_
    refine W.g_iload (pc1 := 257) P594.q at_255 rfl rfl ?_
    refine W.g_iloadN (pc1 := 258) P594.q at_257 rfl rfl ?_
    refine W.g_iloadN (pc1 := 259) P594.q at_258 rfl rfl ?_
    refine W.g_dload (pc1 := 261) P594.q at_259 rfl rfl ?_
    refine P594.callS (pc1 := 264) (wd hw (k := 31) rfl) (wd hw (k := 32) rfl) (wd hw (k := 2) rfl) (wd hw (k := 33) rfl) (by decide) (W.MetN.pay (W := 0) (c_chk21 l Z a0 hw x581 _ _ _ _ _ (FP.i2d fc) 13 vl dn (by decide) ok2.1 ok2.2.1 ok2.2.2 (dcmpV_self ok2.2.2 .l) h592 V592) P594 (wd hw (k := 33) rfl) (wd hw (k := 2) rfl) (by decide) (by decide)) (argsL := [(.ref x581), (.int (2 : Int32)), (.int (13 : Int32)), (.int vl), (.int dn), (.double (FP.i2d fc))]) (st0 := []) (lenOf pd_ADIIIID_R_Z rfl) rfl rfl (Nat.le_of_eq rfl) (by rw [hml]; rfl) (by decide) (by decide) (W.Pure.ok P594.chv) at_261 rfl ?_
    intro v595 T595 h595 L595 q595 P595
    obtain ⟨rfl, rfl, rfl⟩ := q595
    show W.Go p.tables e below _ (T595.setTop (mkF m 264 #[.val (.int pr), .val (.int vl), .val (.int fc), .val (.int dn), .val (.int (13 : Int32)), .val (.int (3 : Int32)), .val (.ref t570), .val (.ref t571), .val (.int (3 : Int32)), .val (.ref x581), .val (.double (FP.i2d fc)), .second, .val (.ref x590)] [(.int (1 : Int32))]))
    refine W.g_ifN (pc2 := 267) P595.q at_264 rfl (by decide) ?_
    refine W.g_aload (pc1 := 269) P595.q at_267 rfl rfl rfl ?_
    refine W.g_iconst (pc1 := 270) (v := (3 : Int32)) P595.q at_269 (by decide) rfl ?_
    refine W.g_iload (pc1 := 272) P595.q at_270 rfl rfl ?_
    refine W.g_iloadN (pc1 := 273) P595.q at_272 rfl rfl ?_
    refine W.g_iloadN (pc1 := 274) P595.q at_273 rfl rfl ?_
    refine W.g_dload (pc1 := 276) P595.q at_274 rfl rfl ?_
    refine P595.callS (pc1 := 279) (wd hw (k := 31) rfl) (wd hw (k := 32) rfl) (wd hw (k := 2) rfl) (wd hw (k := 33) rfl) (by decide) (W.MetN.pay (W := 0) (c_chk31 l Z a0 hw x581 _ _ _ _ _ (FP.i2d fc) 13 vl dn (by decide) ok3.1 ok3.2.1 ok3.2.2 (dcmpV_self ok3.2.2 .l) h592 V592) P595 (wd hw (k := 33) rfl) (wd hw (k := 2) rfl) (by decide) (by decide)) (argsL := [(.ref x581), (.int (3 : Int32)), (.int (13 : Int32)), (.int vl), (.int dn), (.double (FP.i2d fc))]) (st0 := []) (lenOf pd_ADIIIID_R_Z rfl) rfl rfl (Nat.le_of_eq rfl) (by rw [hml]; rfl) (by decide) (by decide) (W.Pure.ok P595.chv) at_276 rfl ?_
    intro v596 T596 h596 L596 q596 P596
    obtain ⟨rfl, rfl, rfl⟩ := q596
    show W.Go p.tables e below _ (T596.setTop (mkF m 279 #[.val (.int pr), .val (.int vl), .val (.int fc), .val (.int dn), .val (.int (13 : Int32)), .val (.int (3 : Int32)), .val (.ref t570), .val (.ref t571), .val (.int (3 : Int32)), .val (.ref x581), .val (.double (FP.i2d fc)), .second, .val (.ref x590)] [(.int (1 : Int32))]))
    refine W.g_ifN (pc2 := 282) P596.q at_279 rfl (by decide) ?_
    refine W.g_iconst (pc1 := 283) (v := (1 : Int32)) P596.q at_282 (by decide) rfl ?_
    refine W.g_goto (pc1 := 287) P596.q at_283 (by decide) rfl ?_
    exact P596.retVN hlk hret (Or.inl rfl) at_287 (by decide) (by decide) ⟨rfl, P596.fr⟩
  · show W.Go p.tables e below _ (s₁.setTop (mkF m 4 #[.val (.int pr), .val (.int vl), .val (.int fc), .val (.int dn), .unset, .unset, .unset, .unset, .unset, .unset, .unset, .unset, .unset] [(.int (14 : Int32))]))
    refine W.g_istore (pc1 := 6) (ls2 := #[.val (.int pr), .val (.int vl), .val (.int fc), .val (.int dn), .val (.int (14 : Int32)), .unset, .unset, .unset, .unset, .unset, .unset, .unset, .unset]) P0.q at_4 rfl rfl ?_
    refine W.g_iload (pc1 := 8) P0.q at_6 rfl rfl ?_
    refine W.g_iconst (pc1 := 9) (v := (1 : Int32)) P0.q at_8 (by decide) rfl ?_
    refine W.g_iand (pc1 := 10) P0.q at_9 rfl ?_
    refine W.g_iload (pc1 := 12) P0.q at_10 rfl rfl ?_
    refine W.g_iconst (pc1 := 13) (v := (1 : Int32)) P0.q at_12 (by decide) rfl ?_
    refine W.g_ishr (pc1 := 14) P0.q at_13 rfl ?_
    refine W.g_iconst (pc1 := 15) (v := (1 : Int32)) P0.q at_14 (by decide) rfl ?_
    refine W.g_iand (pc1 := 16) P0.q at_15 rfl ?_
    refine W.g_iadd (pc1 := 17) P0.q at_16 rfl ?_
    refine W.g_iload (pc1 := 19) P0.q at_17 rfl rfl ?_
    refine W.g_iconst (pc1 := 20) (v := (2 : Int32)) P0.q at_19 (by decide) rfl ?_
    refine W.g_ishr (pc1 := 21) P0.q at_20 rfl ?_
    refine W.g_iconst (pc1 := 22) (v := (1 : Int32)) P0.q at_21 (by decide) rfl ?_
    refine W.g_iand (pc1 := 23) P0.q at_22 rfl ?_
    refine W.g_iadd (pc1 := 24) P0.q at_23 rfl ?_
    refine W.g_iload (pc1 := 26) P0.q at_24 rfl rfl ?_
    refine W.g_iconst (pc1 := 27) (v := (3 : Int32)) P0.q at_26 (by decide) rfl ?_
    refine W.g_ishr (pc1 := 28) P0.q at_27 rfl ?_
    refine W.g_iconst (pc1 := 29) (v := (1 : Int32)) P0.q at_28 (by decide) rfl ?_
    refine W.g_iand (pc1 := 30) P0.q at_29 rfl ?_
    refine W.g_iadd (pc1 := 31) P0.q at_30 rfl ?_
    rw [show (((((14 : Int32) &&& (1 : Int32)) + (((14 : Int32) >>> ((1 : Int32) &&& 31)) &&& (1 : Int32))) + (((14 : Int32) >>> ((2 : Int32) &&& 31)) &&& (1 : Int32))) + (((14 : Int32) >>> ((3 : Int32) &&& 31)) &&& (1 : Int32))) = (3 : Int32) from by decide]
    refine W.g_istore (pc1 := 33) (ls2 := #[.val (.int pr), .val (.int vl), .val (.int fc), .val (.int dn), .val (.int (14 : Int32)), .val (.int (3 : Int32)), .unset, .unset, .unset, .unset, .unset, .unset, .unset]) P0.q at_31 rfl rfl ?_
    refine W.g_iload (pc1 := 35) P0.q at_33 rfl rfl ?_
    refine P0.callS (pc1 := 38) (wd hw (k := 0) rfl) (wd hw (k := 1) rfl) (wd hw (k := 2) rfl) (wd hw (k := 3) rfl) (by decide) (W.MetN.pay (W := 0) (c_ni3 l Z a0 hw h0) P0 (wd hw (k := 3) rfl) (wd hw (k := 2) rfl) (by decide) (by decide)) (argsL := [(.int (3 : Int32))]) (st0 := []) (lenOf pd_I_R_AI rfl) rfl rfl (Nat.le_of_eq rfl) (by rw [hml]; rfl) (by decide) (by decide) (fun _ _ _ q => by obtain ⟨_, _, _, q2, q3, _⟩ := q; exact ⟨q2.up P0.sz all0, CHr.keep (W.Ext.toKeep q3 []) sf0 P0.chv⟩) at_35 rfl ?_
    intro v597 T597 h597 L597 q597 P597
    obtain ⟨t597, k597, rfl, f597, E597, g597, V597⟩ := q597
    show W.Go p.tables e below _ (T597.setTop (mkF m 38 #[.val (.int pr), .val (.int vl), .val (.int fc), .val (.int dn), .val (.int (14 : Int32)), .val (.int (3 : Int32)), .unset, .unset, .unset, .unset, .unset, .unset, .unset] [(.ref t597)]))
    refine W.g_astore (pc1 := 40) (ls2 := #[.val (.int pr), .val (.int vl), .val (.int fc), .val (.int dn), .val (.int (14 : Int32)), .val (.int (3 : Int32)), .val (.ref t597), .unset, .unset, .unset, .unset, .unset, .unset]) P597.q at_38 rfl rfl rfl ?_
    refine W.g_iload (pc1 := 42) P597.q at_40 rfl rfl ?_
    refine P597.callS (pc1 := 45) (wd hw (k := 5) rfl) (wd hw (k := 6) rfl) (wd hw (k := 2) rfl) (wd hw (k := 7) rfl) (by decide) (W.MetN.pay (W := 0) (c_nf3 l Z a0 hw h597) P597 (wd hw (k := 7) rfl) (wd hw (k := 2) rfl) (by decide) (by decide)) (argsL := [(.int (3 : Int32))]) (st0 := []) (lenOf pd_I_R_AF rfl) rfl rfl (Nat.le_of_eq rfl) (by rw [hml]; rfl) (by decide) (by decide) (fun _ _ _ q => by obtain ⟨_, _, _, q2, q3, _⟩ := q; exact ⟨q2.up P597.sz all0, CHr.keep (W.Ext.toKeep q3 []) sf0 P597.chv⟩) at_42 rfl ?_
    intro v598 T598 h598 L598 q598 P598
    obtain ⟨t598, k598, rfl, f598, E598, g598, V598⟩ := q598
    show W.Go p.tables e below _ (T598.setTop (mkF m 45 #[.val (.int pr), .val (.int vl), .val (.int fc), .val (.int dn), .val (.int (14 : Int32)), .val (.int (3 : Int32)), .val (.ref t597), .unset, .unset, .unset, .unset, .unset, .unset] [(.ref t598)]))
    have hdf : t597 ≠ t598 := Nat.ne_of_lt (Nat.lt_of_lt_of_le V597.lt g598)
    have Vd0 := V597.ext E598
    refine W.g_astore (pc1 := 47) (ls2 := #[.val (.int pr), .val (.int vl), .val (.int fc), .val (.int dn), .val (.int (14 : Int32)), .val (.int (3 : Int32)), .val (.ref t597), .val (.ref t598), .unset, .unset, .unset, .unset, .unset]) P598.q at_45 rfl rfl rfl ?_
    refine W.g_iconst (pc1 := 48) (v := (0 : Int32)) P598.q at_47 (by decide) rfl ?_
    refine W.g_istore (pc1 := 50) (ls2 := #[.val (.int pr), .val (.int vl), .val (.int fc), .val (.int dn), .val (.int (14 : Int32)), .val (.int (3 : Int32)), .val (.ref t597), .val (.ref t598), .val (.int (0 : Int32)), .unset, .unset, .unset, .unset]) P598.q at_48 rfl rfl ?_
    refine W.g_iload (pc1 := 52) P598.q at_50 rfl rfl ?_
    refine W.g_iconst (pc1 := 53) (v := (1 : Int32)) P598.q at_52 (by decide) rfl ?_
    refine W.g_iand (pc1 := 54) P598.q at_53 rfl ?_
    refine W.g_ifY (pc1 := 76) P598.q at_54 (by decide) rfl (by decide) ?_
    refine W.g_iload (pc1 := 78) P598.q at_76 rfl rfl ?_
    refine W.g_iconst (pc1 := 79) (v := (2 : Int32)) P598.q at_78 (by decide) rfl ?_
    refine W.g_iand (pc1 := 80) P598.q at_79 rfl ?_
    refine W.g_ifN (pc2 := 83) P598.q at_80 rfl (by decide) ?_
    refine W.g_aload (pc1 := 85) P598.q at_83 rfl rfl rfl ?_
    refine W.g_iload (pc1 := 87) P598.q at_85 rfl rfl ?_
    refine W.g_iconst (pc1 := 88) (v := (1 : Int32)) P598.q at_87 (by decide) rfl ?_
    refine P598.stI (pc1 := 89) (i := 0) Vd0 (by decide) (by decide) (Nat.le_of_ble_eq_true rfl) rfl (Or.inr (Nat.le_trans P0.sz g597)) (Safe.arv P598.al Vd0 (by decide)) at_88 rfl ?_
    intro T599 h599 P599 W599 V599
    have Vf599 := V598.other W599 (Ne.symm hdf)
    refine W.g_aload (pc1 := 91) P599.q at_89 rfl rfl rfl ?_
    refine W.g_iload (pc1 := 93) P599.q at_91 rfl rfl ?_
    refine W.g_iloadN (pc1 := 94) P599.q at_93 rfl rfl ?_
    refine W.g_iconst (pc1 := 95) (v := (1 : Int32)) P599.q at_94 (by decide) rfl ?_
    refine P599.callS (pc1 := 98) (wd hw (k := 34) rfl) (wd hw (k := 35) rfl) (wd hw (k := 2) rfl) (wd hw (k := 36) rfl) (by decide) (W.MetN.pay (W := 2) (c_val l Z a0 hw vl 1 h599) P599 (wd hw (k := 36) rfl) (wd hw (k := 2) rfl) (by decide) (by decide)) (argsL := [(.int vl), (.int (1 : Int32))]) (st0 := [(.int (0 : Int32)), (.ref t598)]) (lenOf pd_II_R_F rfl) rfl rfl (Nat.le_of_eq rfl) (by rw [hml]; rfl) (by decide) (by decide) (W.Pure.ok P599.chv) at_95 rfl ?_
    intro v600 T600 h600 L600 q600 P600
    obtain ⟨rfl, rfl, rfl⟩ := q600
    show W.Go p.tables e below _ (T600.setTop (mkF m 98 #[.val (.int pr), .val (.int vl), .val (.int fc), .val (.int dn), .val (.int (14 : Int32)), .val (.int (3 : Int32)), .val (.ref t597), .val (.ref t598), .val (.int (0 : Int32)), .unset, .unset, .unset, .unset] [(.float (FP.i2f (own_vb vl 1))), (.int (0 : Int32)), (.ref t598)]))
    refine P600.stF (pc1 := 99) (i := 0) Vf599 (by decide) (by decide) (Nat.le_of_ble_eq_true rfl) rfl (Or.inr (Nat.le_trans P597.sz g598)) (Safe.arv P600.al Vf599 (by decide)) at_98 rfl ?_
    intro T601 h601 P601 W601 V601
    have Vd601 := V599.other W601 hdf
    refine W.g_iinc (pc1 := 102) (ls2 := #[.val (.int pr), .val (.int vl), .val (.int fc), .val (.int dn), .val (.int (14 : Int32)), .val (.int (3 : Int32)), .val (.ref t597), .val (.ref t598), .val (.int ((0 : Int32) + Int32.ofInt 1)), .unset, .unset, .unset, .unset]) P601.q at_99 rfl rfl rfl ?_
    show W.Go p.tables e below _ (T601.setTop (mkF m 102 #[.val (.int pr), .val (.int vl), .val (.int fc), .val (.int dn), .val (.int (14 : Int32)), .val (.int (3 : Int32)), .val (.ref t597), .val (.ref t598), .val (.int (1 : Int32)), .unset, .unset, .unset, .unset] []))
    refine W.g_iload (pc1 := 104) P601.q at_102 rfl rfl ?_
    refine W.g_iconst (pc1 := 105) (v := (4 : Int32)) P601.q at_104 (by decide) rfl ?_
    refine W.g_iand (pc1 := 106) P601.q at_105 rfl ?_
    refine W.g_ifN (pc2 := 109) P601.q at_106 rfl (by decide) ?_
    refine W.g_aload (pc1 := 111) P601.q at_109 rfl rfl rfl ?_
    refine W.g_iload (pc1 := 113) P601.q at_111 rfl rfl ?_
    refine W.g_iconst (pc1 := 114) (v := (2 : Int32)) P601.q at_113 (by decide) rfl ?_
    refine P601.stI (pc1 := 115) (i := 1) Vd601 (by decide) (by decide) (Nat.le_of_ble_eq_true rfl) rfl (Or.inr (Nat.le_trans P0.sz g597)) (Safe.arv P601.al Vd601 (by decide)) at_114 rfl ?_
    intro T602 h602 P602 W602 V602
    have Vf602 := V601.other W602 (Ne.symm hdf)
    refine W.g_aload (pc1 := 117) P602.q at_115 rfl rfl rfl ?_
    refine W.g_iload (pc1 := 119) P602.q at_117 rfl rfl ?_
    refine W.g_iloadN (pc1 := 120) P602.q at_119 rfl rfl ?_
    refine W.g_iconst (pc1 := 121) (v := (2 : Int32)) P602.q at_120 (by decide) rfl ?_
    refine P602.callS (pc1 := 124) (wd hw (k := 34) rfl) (wd hw (k := 35) rfl) (wd hw (k := 2) rfl) (wd hw (k := 36) rfl) (by decide) (W.MetN.pay (W := 2) (c_val l Z a0 hw vl 2 h602) P602 (wd hw (k := 36) rfl) (wd hw (k := 2) rfl) (by decide) (by decide)) (argsL := [(.int vl), (.int (2 : Int32))]) (st0 := [(.int (1 : Int32)), (.ref t598)]) (lenOf pd_II_R_F rfl) rfl rfl (Nat.le_of_eq rfl) (by rw [hml]; rfl) (by decide) (by decide) (W.Pure.ok P602.chv) at_121 rfl ?_
    intro v603 T603 h603 L603 q603 P603
    obtain ⟨rfl, rfl, rfl⟩ := q603
    show W.Go p.tables e below _ (T603.setTop (mkF m 124 #[.val (.int pr), .val (.int vl), .val (.int fc), .val (.int dn), .val (.int (14 : Int32)), .val (.int (3 : Int32)), .val (.ref t597), .val (.ref t598), .val (.int (1 : Int32)), .unset, .unset, .unset, .unset] [(.float (FP.i2f (own_vb vl 2))), (.int (1 : Int32)), (.ref t598)]))
    refine P603.stF (pc1 := 125) (i := 1) Vf602 (by decide) (by decide) (Nat.le_of_ble_eq_true rfl) rfl (Or.inr (Nat.le_trans P597.sz g598)) (Safe.arv P603.al Vf602 (by decide)) at_124 rfl ?_
    intro T604 h604 P604 W604 V604
    have Vd604 := V602.other W604 hdf
    refine W.g_iinc (pc1 := 128) (ls2 := #[.val (.int pr), .val (.int vl), .val (.int fc), .val (.int dn), .val (.int (14 : Int32)), .val (.int (3 : Int32)), .val (.ref t597), .val (.ref t598), .val (.int ((1 : Int32) + Int32.ofInt 1)), .unset, .unset, .unset, .unset]) P604.q at_125 rfl rfl rfl ?_
    show W.Go p.tables e below _ (T604.setTop (mkF m 128 #[.val (.int pr), .val (.int vl), .val (.int fc), .val (.int dn), .val (.int (14 : Int32)), .val (.int (3 : Int32)), .val (.ref t597), .val (.ref t598), .val (.int (2 : Int32)), .unset, .unset, .unset, .unset] []))
    refine W.g_iload (pc1 := 130) P604.q at_128 rfl rfl ?_
    refine W.g_bipush (pc1 := 132) (v := (8 : Int32)) P604.q at_130 (by decide) rfl ?_
    refine W.g_iand (pc1 := 133) P604.q at_132 rfl ?_
    refine W.g_ifN (pc2 := 136) P604.q at_133 rfl (by decide) ?_
    refine W.g_aload (pc1 := 138) P604.q at_136 rfl rfl rfl ?_
    refine W.g_iload (pc1 := 140) P604.q at_138 rfl rfl ?_
    refine W.g_iconst (pc1 := 141) (v := (3 : Int32)) P604.q at_140 (by decide) rfl ?_
    refine P604.stI (pc1 := 142) (i := 2) Vd604 (by decide) (by decide) (Nat.le_of_ble_eq_true rfl) rfl (Or.inr (Nat.le_trans P0.sz g597)) (Safe.arv P604.al Vd604 (by decide)) at_141 rfl ?_
    intro T605 h605 P605 W605 V605
    have Vf605 := V604.other W605 (Ne.symm hdf)
    refine W.g_aload (pc1 := 144) P605.q at_142 rfl rfl rfl ?_
    refine W.g_iload (pc1 := 146) P605.q at_144 rfl rfl ?_
    refine W.g_iloadN (pc1 := 147) P605.q at_146 rfl rfl ?_
    refine W.g_iconst (pc1 := 148) (v := (3 : Int32)) P605.q at_147 (by decide) rfl ?_
    refine P605.callS (pc1 := 151) (wd hw (k := 34) rfl) (wd hw (k := 35) rfl) (wd hw (k := 2) rfl) (wd hw (k := 36) rfl) (by decide) (W.MetN.pay (W := 2) (c_val l Z a0 hw vl 3 h605) P605 (wd hw (k := 36) rfl) (wd hw (k := 2) rfl) (by decide) (by decide)) (argsL := [(.int vl), (.int (3 : Int32))]) (st0 := [(.int (2 : Int32)), (.ref t598)]) (lenOf pd_II_R_F rfl) rfl rfl (Nat.le_of_eq rfl) (by rw [hml]; rfl) (by decide) (by decide) (W.Pure.ok P605.chv) at_148 rfl ?_
    intro v606 T606 h606 L606 q606 P606
    obtain ⟨rfl, rfl, rfl⟩ := q606
    show W.Go p.tables e below _ (T606.setTop (mkF m 151 #[.val (.int pr), .val (.int vl), .val (.int fc), .val (.int dn), .val (.int (14 : Int32)), .val (.int (3 : Int32)), .val (.ref t597), .val (.ref t598), .val (.int (2 : Int32)), .unset, .unset, .unset, .unset] [(.float (FP.i2f (own_vb vl 3))), (.int (2 : Int32)), (.ref t598)]))
    refine P606.stF (pc1 := 152) (i := 2) Vf605 (by decide) (by decide) (Nat.le_of_ble_eq_true rfl) rfl (Or.inr (Nat.le_trans P597.sz g598)) (Safe.arv P606.al Vf605 (by decide)) at_151 rfl ?_
    intro T607 h607 P607 W607 V607
    have Vd607 := V605.other W607 hdf
    refine W.g_iinc (pc1 := 155) (ls2 := #[.val (.int pr), .val (.int vl), .val (.int fc), .val (.int dn), .val (.int (14 : Int32)), .val (.int (3 : Int32)), .val (.ref t597), .val (.ref t598), .val (.int ((2 : Int32) + Int32.ofInt 1)), .unset, .unset, .unset, .unset]) P607.q at_152 rfl rfl rfl ?_
    show W.Go p.tables e below _ (T607.setTop (mkF m 155 #[.val (.int pr), .val (.int vl), .val (.int fc), .val (.int dn), .val (.int (14 : Int32)), .val (.int (3 : Int32)), .val (.ref t597), .val (.ref t598), .val (.int (3 : Int32)), .unset, .unset, .unset, .unset] []))
    refine W.g_iconst (pc1 := 156) (v := (4 : Int32)) P607.q at_155 (by decide) rfl ?_
    refine P607.newP (pc1 := 158) (cap := 4) (wd hw (k := 9) rfl) (by decide) (by decide) (by decide) (by decide) (by decide) at_156 rfl ?_
    intro T608 h608 x608 k608 g608 P608 E608 V608
    have Vd608 := Vd607.ext E608
    have Vf608 := V607.ext E608
    have hdz : t597 ≠ x608 := Nat.ne_of_lt (by rw [g608]; exact Vd607.lt)
    have hfz : t598 ≠ x608 := Nat.ne_of_lt (by rw [g608]; exact V607.lt)
    refine W.g_astore (pc1 := 160) (ls2 := #[.val (.int pr), .val (.int vl), .val (.int fc), .val (.int dn), .val (.int (14 : Int32)), .val (.int (3 : Int32)), .val (.ref t597), .val (.ref t598), .val (.int (3 : Int32)), .val (.ref x608), .unset, .unset, .unset]) P608.q at_158 rfl rfl rfl ?_
    refine W.g_aload (pc1 := 162) P608.q at_160 rfl rfl rfl ?_
    refine W.g_iconst (pc1 := 163) (v := (0 : Int32)) P608.q at_162 (by decide) rfl ?_
    refine W.g_iloadN (pc1 := 164) P608.q at_163 rfl rfl ?_
    refine W.g_iconst (pc1 := 165) (v := (0 : Int32)) P608.q at_164 (by decide) rfl ?_
    refine P608.callS (pc1 := 168) (wd hw (k := 10) rfl) (wd hw (k := 11) rfl) (wd hw (k := 2) rfl) (wd hw (k := 12) rfl) (by decide) (W.MetN.pay (W := 2) (c_dv l Z a0 hw dn 0 h608) P608 (wd hw (k := 12) rfl) (wd hw (k := 2) rfl) (by decide) (by decide)) (argsL := [(.int dn), (.int (0 : Int32))]) (st0 := [(.int (0 : Int32)), (.ref x608)]) (lenOf pd_II_R_D rfl) rfl rfl (Nat.le_of_eq rfl) (by rw [hml]; rfl) (by decide) (by decide) (W.Pure.ok P608.chv) at_165 rfl ?_
    intro v609 T609 h609 L609 q609 P609
    obtain ⟨rfl, rfl, rfl⟩ := q609
    show W.Go p.tables e below _ (T609.setTop (mkF m 168 #[.val (.int pr), .val (.int vl), .val (.int fc), .val (.int dn), .val (.int (14 : Int32)), .val (.int (3 : Int32)), .val (.ref t597), .val (.ref t598), .val (.int (3 : Int32)), .val (.ref x608), .unset, .unset, .unset] [(.double (FP.i2d (own_db dn 0))), (.int (0 : Int32)), (.ref x608)]))
    refine P609.stD (pc1 := 169) (i := 0) V608 (by decide) (by decide) (Nat.le_of_ble_eq_true rfl) rfl (Or.inr (by rw [g608]; exact P607.sz)) (Safe.arv P609.al V608 (by decide)) at_168 rfl ?_
    intro T610 h610 P610 W610 V610
    have Vd610 := Vd608.other W610 hdz
    have Vf610 := Vf608.other W610 hfz
    refine W.g_aload (pc1 := 171) P610.q at_169 rfl rfl rfl ?_
    refine W.g_iconst (pc1 := 172) (v := (1 : Int32)) P610.q at_171 (by decide) rfl ?_
    refine W.g_iloadN (pc1 := 173) P610.q at_172 rfl rfl ?_
    refine W.g_iconst (pc1 := 174) (v := (1 : Int32)) P610.q at_173 (by decide) rfl ?_
    refine P610.callS (pc1 := 177) (wd hw (k := 10) rfl) (wd hw (k := 11) rfl) (wd hw (k := 2) rfl) (wd hw (k := 12) rfl) (by decide) (W.MetN.pay (W := 2) (c_dv l Z a0 hw dn 1 h610) P610 (wd hw (k := 12) rfl) (wd hw (k := 2) rfl) (by decide) (by decide)) (argsL := [(.int dn), (.int (1 : Int32))]) (st0 := [(.int (1 : Int32)), (.ref x608)]) (lenOf pd_II_R_D rfl) rfl rfl (Nat.le_of_eq rfl) (by rw [hml]; rfl) (by decide) (by decide) (W.Pure.ok P610.chv) at_174 rfl ?_
    intro v611 T611 h611 L611 q611 P611
    obtain ⟨rfl, rfl, rfl⟩ := q611
    show W.Go p.tables e below _ (T611.setTop (mkF m 177 #[.val (.int pr), .val (.int vl), .val (.int fc), .val (.int dn), .val (.int (14 : Int32)), .val (.int (3 : Int32)), .val (.ref t597), .val (.ref t598), .val (.int (3 : Int32)), .val (.ref x608), .unset, .unset, .unset] [(.double (FP.i2d (own_db dn 1))), (.int (1 : Int32)), (.ref x608)]))
    refine P611.stD (pc1 := 178) (i := 1) V610 (by decide) (by decide) (Nat.le_of_ble_eq_true rfl) rfl (Or.inr (by rw [g608]; exact P607.sz)) (Safe.arv P611.al V610 (by decide)) at_177 rfl ?_
    intro T612 h612 P612 W612 V612
    have Vd612 := Vd610.other W612 hdz
    have Vf612 := Vf610.other W612 hfz
    refine W.g_aload (pc1 := 180) P612.q at_178 rfl rfl rfl ?_
    refine W.g_iconst (pc1 := 181) (v := (2 : Int32)) P612.q at_180 (by decide) rfl ?_
    refine W.g_iloadN (pc1 := 182) P612.q at_181 rfl rfl ?_
    refine W.g_iconst (pc1 := 183) (v := (2 : Int32)) P612.q at_182 (by decide) rfl ?_
    refine P612.callS (pc1 := 186) (wd hw (k := 10) rfl) (wd hw (k := 11) rfl) (wd hw (k := 2) rfl) (wd hw (k := 12) rfl) (by decide) (W.MetN.pay (W := 2) (c_dv l Z a0 hw dn 2 h612) P612 (wd hw (k := 12) rfl) (wd hw (k := 2) rfl) (by decide) (by decide)) (argsL := [(.int dn), (.int (2 : Int32))]) (st0 := [(.int (2 : Int32)), (.ref x608)]) (lenOf pd_II_R_D rfl) rfl rfl (Nat.le_of_eq rfl) (by rw [hml]; rfl) (by decide) (by decide) (W.Pure.ok P612.chv) at_183 rfl ?_
    intro v613 T613 h613 L613 q613 P613
    obtain ⟨rfl, rfl, rfl⟩ := q613
    show W.Go p.tables e below _ (T613.setTop (mkF m 186 #[.val (.int pr), .val (.int vl), .val (.int fc), .val (.int dn), .val (.int (14 : Int32)), .val (.int (3 : Int32)), .val (.ref t597), .val (.ref t598), .val (.int (3 : Int32)), .val (.ref x608), .unset, .unset, .unset] [(.double (FP.i2d (own_db dn 2))), (.int (2 : Int32)), (.ref x608)]))
    refine P613.stD (pc1 := 187) (i := 2) V612 (by decide) (by decide) (Nat.le_of_ble_eq_true rfl) rfl (Or.inr (by rw [g608]; exact P607.sz)) (Safe.arv P613.al V612 (by decide)) at_186 rfl ?_
    intro T614 h614 P614 W614 V614
    have Vd614 := Vd612.other W614 hdz
    have Vf614 := Vf612.other W614 hfz
    refine W.g_aload (pc1 := 189) P614.q at_187 rfl rfl rfl ?_
    refine W.g_iconst (pc1 := 190) (v := (3 : Int32)) P614.q at_189 (by decide) rfl ?_
    refine W.g_iloadN (pc1 := 191) P614.q at_190 rfl rfl ?_
    refine W.g_iconst (pc1 := 192) (v := (3 : Int32)) P614.q at_191 (by decide) rfl ?_
    refine P614.callS (pc1 := 195) (wd hw (k := 10) rfl) (wd hw (k := 11) rfl) (wd hw (k := 2) rfl) (wd hw (k := 12) rfl) (by decide) (W.MetN.pay (W := 2) (c_dv l Z a0 hw dn 3 h614) P614 (wd hw (k := 12) rfl) (wd hw (k := 2) rfl) (by decide) (by decide)) (argsL := [(.int dn), (.int (3 : Int32))]) (st0 := [(.int (3 : Int32)), (.ref x608)]) (lenOf pd_II_R_D rfl) rfl rfl (Nat.le_of_eq rfl) (by rw [hml]; rfl) (by decide) (by decide) (W.Pure.ok P614.chv) at_192 rfl ?_
    intro v615 T615 h615 L615 q615 P615
    obtain ⟨rfl, rfl, rfl⟩ := q615
    show W.Go p.tables e below _ (T615.setTop (mkF m 195 #[.val (.int pr), .val (.int vl), .val (.int fc), .val (.int dn), .val (.int (14 : Int32)), .val (.int (3 : Int32)), .val (.ref t597), .val (.ref t598), .val (.int (3 : Int32)), .val (.ref x608), .unset, .unset, .unset] [(.double (FP.i2d (own_db dn 3))), (.int (3 : Int32)), (.ref x608)]))
    refine P615.stD (pc1 := 196) (i := 3) V614 (by decide) (by decide) (Nat.le_of_ble_eq_true rfl) rfl (Or.inr (by rw [g608]; exact P607.sz)) (Safe.arv P615.al V614 (by decide)) at_195 rfl ?_
    intro T616 h616 P616 W616 V616
    have Vd616 := Vd614.other W616 hdz
    have Vf616 := Vf614.other W616 hfz
    refine W.g_iloadN (pc1 := 197) P616.q at_196 rfl rfl ?_
    refine W.g_i2d (pc1 := 198) P616.q at_197 rfl ?_
    refine W.g_dstore (pc1 := 200) (ls2 := #[.val (.int pr), .val (.int vl), .val (.int fc), .val (.int dn), .val (.int (14 : Int32)), .val (.int (3 : Int32)), .val (.ref t597), .val (.ref t598), .val (.int (3 : Int32)), .val (.ref x608), .val (.double (FP.i2d fc)), .second, .unset]) P616.q at_198 rfl rfl ?_
    refine P616.newO (pc1 := 203) (wd hw (k := 13) rfl) (wd hw (k := 14) rfl) (wd hw (k := 15) rfl) (by decide) (by decide) at_200 rfl ?_
    intro T617 h617 x617 g617 P617 E617 A617 D617 U617
    refine W.g_dup (pc1 := 204) P617.q at_203 rfl rfl ?_
    refine W.g_aload (pc1 := 206) P617.q at_204 rfl rfl rfl ?_
    refine W.g_aload (pc1 := 208) P617.q at_206 rfl rfl rfl ?_
    have Ndimensions : Fld Z h617 x617 "com/example/intent_search/intentsearch/rank/CategoryVector" "dimensions" "[I" .null := D617 (Or.inr (wd hw (k := 23) rfl)) (ty := (.array .int)) (by decide)
    have Nvalues : Fld Z h617 x617 "com/example/intent_search/intentsearch/rank/CategoryVector" "values" "[F" .null := D617 (Or.inr (wd hw (k := 25) rfl)) (ty := (.array .float)) (by decide)
    refine P617.callN (pc1 := 211) rfl (wd hw (k := 16) rfl) (wd hw (k := 17) rfl) (wd hw (k := 18) rfl) (by decide) (W.MetN.pay (W := 1) (c_cv l Z a0 hw x617 t597 t598 h617 A617 _ Ndimensions _ Nvalues) P617 (wd hw (k := 18) rfl) (wd hw (k := 15) rfl) (by decide) (by decide)) (argsL := [(.ref t597), (.ref t598)]) (st0 := [(.ref x617)]) (lenOf pd_AIAF_R_V rfl) rfl rfl (Nat.le_of_eq rfl) (by rw [hml]; rfl) (by decide) (by decide) (fun _ _ _ q => ⟨q.2.1.up P617.sz (allS (Or.inr (by rw [g617]; exact P616.sz)) all0), CHr.keep q.2.2.1 (sfS (Safe.exa P617.al A617 (by decide) (by decide)) sf0) P617.chv⟩) at_208 rfl ?_
    intro v618 T618 h618 L618 q618 P618
    obtain ⟨rfl, f618, K618, A618, Fd618, Fv618⟩ := q618
    show W.Go p.tables e below _ (T618.setTop (mkF m 211 #[.val (.int pr), .val (.int vl), .val (.int fc), .val (.int dn), .val (.int (14 : Int32)), .val (.int (3 : Int32)), .val (.ref t597), .val (.ref t598), .val (.int (3 : Int32)), .val (.ref x608), .val (.double (FP.i2d fc)), .second, .unset] [(.ref x617)]))
    have Vdq := (Vd616.ext E617).keep K618 (ninS (Ne.symm (Exa.neArv A617 (Vd616.ext E617) (wd hw (k := 14) rfl))) nin0)
    have Vfq := (Vf616.ext E617).keep K618 (ninS (Ne.symm (Exa.neArv A617 (Vf616.ext E617) (wd hw (k := 14) rfl))) nin0)
    have Vzq := (V616.ext E617).keep K618 (ninS (Ne.symm (Exa.neArv A617 (V616.ext E617) (wd hw (k := 14) rfl))) nin0)
    have hxz : x617 ≠ x608 := Exa.neArv A618 Vzq (wd hw (k := 14) rfl)
    refine W.g_astore (pc1 := 213) (ls2 := #[.val (.int pr), .val (.int vl), .val (.int fc), .val (.int dn), .val (.int (14 : Int32)), .val (.int (3 : Int32)), .val (.ref t597), .val (.ref t598), .val (.int (3 : Int32)), .val (.ref x608), .val (.double (FP.i2d fc)), .second, .val (.ref x617)]) P618.q at_211 rfl rfl rfl ?_
    refine W.g_aload (pc1 := 215) P618.q at_213 rfl rfl rfl ?_
    refine W.g_aload (pc1 := 217) P618.q at_215 rfl rfl rfl ?_
    refine W.g_dload (pc1 := 219) P618.q at_217 rfl rfl ?_
    have ok0 := own_one (f := fc) (own_dbb dn 0) (own_vbb vl 0)
    have ok1 := own_one (f := fc) (own_dbb dn 1) (own_vbb vl 1)
    have ok2 := own_one (f := fc) (own_dbb dn 2) (own_vbb vl 2)
    have ok3 := own_one (f := fc) (own_dbb dn 3) (own_vbb vl 3)
    refine P618.callV (pc1 := 222) A618 (wd hw (k := 26) rfl) (wd hw (k := 27) rfl) (wd hw (k := 29) rfl) (wd hw (k := 28) rfl) (notFace_of_selects (args := #[]) (mvT P618.hz (wd hw (k := 29) rfl))) (by decide) (W.MetN.pay (W := 0) (c_add14 l Z a0 hw x617 t597 t598 x608 _ _ _ (FP.i2d (own_db dn 0)) (FP.i2d (own_db dn 1)) (FP.i2d (own_db dn 2)) (FP.i2d (own_db dn 3)) (FP.i2d fc) (FP.i2f (own_vb vl 1)) ok1.1 ok1.2.1 ok1.2.2 (FP.i2f (own_vb vl 2)) ok2.1 ok2.2.1 ok2.2.2 (FP.i2f (own_vb vl 3)) ok3.1 ok3.2.1 ok3.2.2 h618 A618 Fd618 Fv618 Vdq Vfq Vzq hdz hfz hxz) P618 (wd hw (k := 30) rfl) (wd hw (k := 15) rfl) (by decide) (by decide)) (argsL := [(.ref x608), (.double (FP.i2d fc))]) (st0 := []) (lenOf pd_ADD_R_V rfl) rfl rfl (Nat.le_of_eq rfl) (by rw [hml]; rfl) (by decide) (by decide) (fun _ _ _ q => ⟨q.2.1.up P618.sz (allS (Or.inr (by rw [g608]; exact P607.sz)) all0), CHr.keep q.2.2.1 (sfS (Safe.arv P618.al Vzq (by decide)) sf0) P618.chv⟩) at_219 rfl ?_
    intro v619 T619 h619 L619 q619 P619
    obtain ⟨rfl, f619, K619, V619⟩ := q619
    show W.Go p.tables e below _ (T619.setTop (mkF m 222 #[.val (.int pr), .val (.int vl), .val (.int fc), .val (.int dn), .val (.int (14 : Int32)), .val (.int (3 : Int32)), .val (.ref t597), .val (.ref t598), .val (.int (3 : Int32)), .val (.ref x608), .val (.double (FP.i2d fc)), .second, .val (.ref x617)] []))
    refine W.g_aload (pc1 := 224) P619.q at_222 rfl rfl rfl ?_
    refine W.g_iconst (pc1 := 225) (v := (0 : Int32)) P619.q at_224 (by decide) rfl ?_
    refine W.g_iload (pc1 := 227) P619.q at_225 rfl rfl ?_
    refine W.g_iloadN (pc1 := 228) P619.q at_227 rfl rfl ?_
    refine W.g_iloadN (pc1 := 229) P619.q at_228 rfl rfl ?_
    refine W.g_dload (pc1 := 231) P619.q at_229 rfl rfl ?_
    refine P619.callS (pc1 := 234) (wd hw (k := 31) rfl) (wd hw (k := 32) rfl) (wd hw (k := 2) rfl) (wd hw (k := 33) rfl) (by decide) (W.MetN.pay (W := 0) (c_chk00 l Z a0 hw x608 _ _ _ _ _ (FP.i2d fc) 14 vl dn (by decide) own_self h619 V619) P619 (wd hw (k := 33) rfl) (wd hw (k := 2) rfl) (by decide) (by decide)) (argsL := [(.ref x608), (.int (0 : Int32)), (.int (14 : Int32)), (.int vl), (.int dn), (.double (FP.i2d fc))]) (st0 := []) (lenOf pd_ADIIIID_R_Z rfl) rfl rfl (Nat.le_of_eq rfl) (by rw [hml]; rfl) (by decide) (by decide) (W.Pure.ok P619.chv) at_231 rfl ?_
    intro v620 T620 h620 L620 q620 P620
    obtain ⟨rfl, rfl, rfl⟩ := q620
    show W.Go p.tables e below _ (T620.setTop (mkF m 234 #[.val (.int pr), .val (.int vl), .val (.int fc), .val (.int dn), .val (.int (14 : Int32)), .val (.int (3 : Int32)), .val (.ref t597), .val (.ref t598), .val (.int (3 : Int32)), .val (.ref x608), .val (.double (FP.i2d fc)), .second, .val (.ref x617)] [(.int (1 : Int32))]))
    refine W.g_ifN (pc2 := 237) P620.q at_234 rfl (by decide) ?_
    refine W.g_aload (pc1 := 239) P620.q at_237 rfl rfl rfl ?_
    refine W.g_iconst (pc1 := 240) (v := (1 : Int32)) P620.q at_239 (by decide) rfl ?_
    refine W.g_iload (pc1 := 242) P620.q at_240 rfl rfl ?_
    refine W.g_iloadN (pc1 := 243) P620.q at_242 rfl rfl ?_
    refine W.g_iloadN (pc1 := 244) P620.q at_243 rfl rfl ?_
    refine W.g_dload (pc1 := 246) P620.q at_244 rfl rfl ?_
    refine P620.callS (pc1 := 249) (wd hw (k := 31) rfl) (wd hw (k := 32) rfl) (wd hw (k := 2) rfl) (wd hw (k := 33) rfl) (by decide) (W.MetN.pay (W := 0) (c_chk11 l Z a0 hw x608 _ _ _ _ _ (FP.i2d fc) 14 vl dn (by decide) ok1.1 ok1.2.1 ok1.2.2 (dcmpV_self ok1.2.2 .l) h619 V619) P620 (wd hw (k := 33) rfl) (wd hw (k := 2) rfl) (by decide) (by decide)) (argsL := [(.ref x608), (.int (1 : Int32)), (.int (14 : Int32)), (.int vl), (.int dn), (.double (FP.i2d fc))]) (st0 := []) (lenOf pd_ADIIIID_R_Z rfl) rfl rfl (Nat.le_of_eq rfl) (by rw [hml]; rfl) (by decide) (by decide) (W.Pure.ok P620.chv) at_246 rfl ?_
    intro v621 T621 h621 L621 q621 P621
    obtain ⟨rfl, rfl, rfl⟩ := q621
    show W.Go p.tables e below _ (T621.setTop (mkF m 249 #[.val (.int pr), .val (.int vl), .val (.int fc), .val (.int dn), .val (.int (14 : Int32)), .val (.int (3 : Int32)), .val (.ref t597), .val (.ref t598), .val (.int (3 : Int32)), .val (.ref x608), .val (.double (FP.i2d fc)), .second, .val (.ref x617)] [(.int (1 : Int32))]))
    refine W.g_ifN (pc2 := 252) P621.q at_249 rfl (by decide) ?_
    refine W.g_aload (pc1 := 254) P621.q at_252 rfl rfl rfl ?_
    refine W.g_iconst (pc1 := 255) (v := (2 : Int32)) P621.q at_254 (by decide) rfl ?_
    refine W.g_iload (pc1 := 257) P621.q at_255 rfl rfl ?_
    refine W.g_iloadN (pc1 := 258) P621.q at_257 rfl rfl ?_
    refine W.g_iloadN (pc1 := 259) P621.q at_258 rfl rfl ?_
    refine W.g_dload (pc1 := 261) P621.q at_259 rfl rfl ?_
    refine P621.callS (pc1 := 264) (wd hw (k := 31) rfl) (wd hw (k := 32) rfl) (wd hw (k := 2) rfl) (wd hw (k := 33) rfl) (by decide) (W.MetN.pay (W := 0) (c_chk21 l Z a0 hw x608 _ _ _ _ _ (FP.i2d fc) 14 vl dn (by decide) ok2.1 ok2.2.1 ok2.2.2 (dcmpV_self ok2.2.2 .l) h619 V619) P621 (wd hw (k := 33) rfl) (wd hw (k := 2) rfl) (by decide) (by decide)) (argsL := [(.ref x608), (.int (2 : Int32)), (.int (14 : Int32)), (.int vl), (.int dn), (.double (FP.i2d fc))]) (st0 := []) (lenOf pd_ADIIIID_R_Z rfl) rfl rfl (Nat.le_of_eq rfl) (by rw [hml]; rfl) (by decide) (by decide) (W.Pure.ok P621.chv) at_261 rfl ?_
    intro v622 T622 h622 L622 q622 P622
    obtain ⟨rfl, rfl, rfl⟩ := q622
    show W.Go p.tables e below _ (T622.setTop (mkF m 264 #[.val (.int pr), .val (.int vl), .val (.int fc), .val (.int dn), .val (.int (14 : Int32)), .val (.int (3 : Int32)), .val (.ref t597), .val (.ref t598), .val (.int (3 : Int32)), .val (.ref x608), .val (.double (FP.i2d fc)), .second, .val (.ref x617)] [(.int (1 : Int32))]))
    refine W.g_ifN (pc2 := 267) P622.q at_264 rfl (by decide) ?_
    refine W.g_aload (pc1 := 269) P622.q at_267 rfl rfl rfl ?_
    refine W.g_iconst (pc1 := 270) (v := (3 : Int32)) P622.q at_269 (by decide) rfl ?_
    refine W.g_iload (pc1 := 272) P622.q at_270 rfl rfl ?_
    refine W.g_iloadN (pc1 := 273) P622.q at_272 rfl rfl ?_
    refine W.g_iloadN (pc1 := 274) P622.q at_273 rfl rfl ?_
    refine W.g_dload (pc1 := 276) P622.q at_274 rfl rfl ?_
    refine P622.callS (pc1 := 279) (wd hw (k := 31) rfl) (wd hw (k := 32) rfl) (wd hw (k := 2) rfl) (wd hw (k := 33) rfl) (by decide) (W.MetN.pay (W := 0) (c_chk31 l Z a0 hw x608 _ _ _ _ _ (FP.i2d fc) 14 vl dn (by decide) ok3.1 ok3.2.1 ok3.2.2 (dcmpV_self ok3.2.2 .l) h619 V619) P622 (wd hw (k := 33) rfl) (wd hw (k := 2) rfl) (by decide) (by decide)) (argsL := [(.ref x608), (.int (3 : Int32)), (.int (14 : Int32)), (.int vl), (.int dn), (.double (FP.i2d fc))]) (st0 := []) (lenOf pd_ADIIIID_R_Z rfl) rfl rfl (Nat.le_of_eq rfl) (by rw [hml]; rfl) (by decide) (by decide) (W.Pure.ok P622.chv) at_276 rfl ?_
    intro v623 T623 h623 L623 q623 P623
    obtain ⟨rfl, rfl, rfl⟩ := q623
    show W.Go p.tables e below _ (T623.setTop (mkF m 279 #[.val (.int pr), .val (.int vl), .val (.int fc), .val (.int dn), .val (.int (14 : Int32)), .val (.int (3 : Int32)), .val (.ref t597), .val (.ref t598), .val (.int (3 : Int32)), .val (.ref x608), .val (.double (FP.i2d fc)), .second, .val (.ref x617)] [(.int (1 : Int32))]))
    refine W.g_ifN (pc2 := 282) P623.q at_279 rfl (by decide) ?_
    refine W.g_iconst (pc1 := 283) (v := (1 : Int32)) P623.q at_282 (by decide) rfl ?_
    refine W.g_goto (pc1 := 287) P623.q at_283 (by decide) rfl ?_
    exact P623.retVN hlk hret (Or.inl rfl) at_287 (by decide) (by decide) ⟨rfl, P623.fr⟩
  · show W.Go p.tables e below _ (s₁.setTop (mkF m 4 #[.val (.int pr), .val (.int vl), .val (.int fc), .val (.int dn), .unset, .unset, .unset, .unset, .unset, .unset, .unset, .unset, .unset] [(.int (15 : Int32))]))
    refine W.g_istore (pc1 := 6) (ls2 := #[.val (.int pr), .val (.int vl), .val (.int fc), .val (.int dn), .val (.int (15 : Int32)), .unset, .unset, .unset, .unset, .unset, .unset, .unset, .unset]) P0.q at_4 rfl rfl ?_
    refine W.g_iload (pc1 := 8) P0.q at_6 rfl rfl ?_
    refine W.g_iconst (pc1 := 9) (v := (1 : Int32)) P0.q at_8 (by decide) rfl ?_
    refine W.g_iand (pc1 := 10) P0.q at_9 rfl ?_
    refine W.g_iload (pc1 := 12) P0.q at_10 rfl rfl ?_
    refine W.g_iconst (pc1 := 13) (v := (1 : Int32)) P0.q at_12 (by decide) rfl ?_
    refine W.g_ishr (pc1 := 14) P0.q at_13 rfl ?_
    refine W.g_iconst (pc1 := 15) (v := (1 : Int32)) P0.q at_14 (by decide) rfl ?_
    refine W.g_iand (pc1 := 16) P0.q at_15 rfl ?_
    refine W.g_iadd (pc1 := 17) P0.q at_16 rfl ?_
    refine W.g_iload (pc1 := 19) P0.q at_17 rfl rfl ?_
    refine W.g_iconst (pc1 := 20) (v := (2 : Int32)) P0.q at_19 (by decide) rfl ?_
    refine W.g_ishr (pc1 := 21) P0.q at_20 rfl ?_
    refine W.g_iconst (pc1 := 22) (v := (1 : Int32)) P0.q at_21 (by decide) rfl ?_
    refine W.g_iand (pc1 := 23) P0.q at_22 rfl ?_
    refine W.g_iadd (pc1 := 24) P0.q at_23 rfl ?_
    refine W.g_iload (pc1 := 26) P0.q at_24 rfl rfl ?_
    refine W.g_iconst (pc1 := 27) (v := (3 : Int32)) P0.q at_26 (by decide) rfl ?_
    refine W.g_ishr (pc1 := 28) P0.q at_27 rfl ?_
    refine W.g_iconst (pc1 := 29) (v := (1 : Int32)) P0.q at_28 (by decide) rfl ?_
    refine W.g_iand (pc1 := 30) P0.q at_29 rfl ?_
    refine W.g_iadd (pc1 := 31) P0.q at_30 rfl ?_
    rw [show (((((15 : Int32) &&& (1 : Int32)) + (((15 : Int32) >>> ((1 : Int32) &&& 31)) &&& (1 : Int32))) + (((15 : Int32) >>> ((2 : Int32) &&& 31)) &&& (1 : Int32))) + (((15 : Int32) >>> ((3 : Int32) &&& 31)) &&& (1 : Int32))) = (4 : Int32) from by decide]
    refine W.g_istore (pc1 := 33) (ls2 := #[.val (.int pr), .val (.int vl), .val (.int fc), .val (.int dn), .val (.int (15 : Int32)), .val (.int (4 : Int32)), .unset, .unset, .unset, .unset, .unset, .unset, .unset]) P0.q at_31 rfl rfl ?_
    refine W.g_iload (pc1 := 35) P0.q at_33 rfl rfl ?_
    refine P0.callS (pc1 := 38) (wd hw (k := 0) rfl) (wd hw (k := 1) rfl) (wd hw (k := 2) rfl) (wd hw (k := 3) rfl) (by decide) (W.MetN.pay (W := 0) (c_ni4 l Z a0 hw h0) P0 (wd hw (k := 3) rfl) (wd hw (k := 2) rfl) (by decide) (by decide)) (argsL := [(.int (4 : Int32))]) (st0 := []) (lenOf pd_I_R_AI rfl) rfl rfl (Nat.le_of_eq rfl) (by rw [hml]; rfl) (by decide) (by decide) (fun _ _ _ q => by obtain ⟨_, _, _, q2, q3, _⟩ := q; exact ⟨q2.up P0.sz all0, CHr.keep (W.Ext.toKeep q3 []) sf0 P0.chv⟩) at_35 rfl ?_
    intro v624 T624 h624 L624 q624 P624
    obtain ⟨t624, k624, rfl, f624, E624, g624, V624⟩ := q624
    show W.Go p.tables e below _ (T624.setTop (mkF m 38 #[.val (.int pr), .val (.int vl), .val (.int fc), .val (.int dn), .val (.int (15 : Int32)), .val (.int (4 : Int32)), .unset, .unset, .unset, .unset, .unset, .unset, .unset] [(.ref t624)]))
    refine W.g_astore (pc1 := 40) (ls2 := #[.val (.int pr), .val (.int vl), .val (.int fc), .val (.int dn), .val (.int (15 : Int32)), .val (.int (4 : Int32)), .val (.ref t624), .unset, .unset, .unset, .unset, .unset, .unset]) P624.q at_38 rfl rfl rfl ?_
    refine W.g_iload (pc1 := 42) P624.q at_40 rfl rfl ?_
    refine P624.callS (pc1 := 45) (wd hw (k := 5) rfl) (wd hw (k := 6) rfl) (wd hw (k := 2) rfl) (wd hw (k := 7) rfl) (by decide) (W.MetN.pay (W := 0) (c_nf4 l Z a0 hw h624) P624 (wd hw (k := 7) rfl) (wd hw (k := 2) rfl) (by decide) (by decide)) (argsL := [(.int (4 : Int32))]) (st0 := []) (lenOf pd_I_R_AF rfl) rfl rfl (Nat.le_of_eq rfl) (by rw [hml]; rfl) (by decide) (by decide) (fun _ _ _ q => by obtain ⟨_, _, _, q2, q3, _⟩ := q; exact ⟨q2.up P624.sz all0, CHr.keep (W.Ext.toKeep q3 []) sf0 P624.chv⟩) at_42 rfl ?_
    intro v625 T625 h625 L625 q625 P625
    obtain ⟨t625, k625, rfl, f625, E625, g625, V625⟩ := q625
    show W.Go p.tables e below _ (T625.setTop (mkF m 45 #[.val (.int pr), .val (.int vl), .val (.int fc), .val (.int dn), .val (.int (15 : Int32)), .val (.int (4 : Int32)), .val (.ref t624), .unset, .unset, .unset, .unset, .unset, .unset] [(.ref t625)]))
    have hdf : t624 ≠ t625 := Nat.ne_of_lt (Nat.lt_of_lt_of_le V624.lt g625)
    have Vd0 := V624.ext E625
    refine W.g_astore (pc1 := 47) (ls2 := #[.val (.int pr), .val (.int vl), .val (.int fc), .val (.int dn), .val (.int (15 : Int32)), .val (.int (4 : Int32)), .val (.ref t624), .val (.ref t625), .unset, .unset, .unset, .unset, .unset]) P625.q at_45 rfl rfl rfl ?_
    refine W.g_iconst (pc1 := 48) (v := (0 : Int32)) P625.q at_47 (by decide) rfl ?_
    refine W.g_istore (pc1 := 50) (ls2 := #[.val (.int pr), .val (.int vl), .val (.int fc), .val (.int dn), .val (.int (15 : Int32)), .val (.int (4 : Int32)), .val (.ref t624), .val (.ref t625), .val (.int (0 : Int32)), .unset, .unset, .unset, .unset]) P625.q at_48 rfl rfl ?_
    refine W.g_iload (pc1 := 52) P625.q at_50 rfl rfl ?_
    refine W.g_iconst (pc1 := 53) (v := (1 : Int32)) P625.q at_52 (by decide) rfl ?_
    refine W.g_iand (pc1 := 54) P625.q at_53 rfl ?_
    refine W.g_ifN (pc2 := 57) P625.q at_54 rfl (by decide) ?_
    refine W.g_aload (pc1 := 59) P625.q at_57 rfl rfl rfl ?_
    refine W.g_iload (pc1 := 61) P625.q at_59 rfl rfl ?_
    refine W.g_iconst (pc1 := 62) (v := (0 : Int32)) P625.q at_61 (by decide) rfl ?_
    refine P625.stI (pc1 := 63) (i := 0) Vd0 (by decide) (by decide) (Nat.le_of_ble_eq_true rfl) rfl (Or.inr (Nat.le_trans P0.sz g624)) (Safe.arv P625.al Vd0 (by decide)) at_62 rfl ?_
    intro T626 h626 P626 W626 V626
    have Vf626 := V625.other W626 (Ne.symm hdf)
    refine W.g_aload (pc1 := 65) P626.q at_63 rfl rfl rfl ?_
    refine W.g_iload (pc1 := 67) P626.q at_65 rfl rfl ?_
    refine W.g_iloadN (pc1 := 68) P626.q at_67 rfl rfl ?_
    refine W.g_iconst (pc1 := 69) (v := (0 : Int32)) P626.q at_68 (by decide) rfl ?_
    refine P626.callS (pc1 := 72) (wd hw (k := 34) rfl) (wd hw (k := 35) rfl) (wd hw (k := 2) rfl) (wd hw (k := 36) rfl) (by decide) (W.MetN.pay (W := 2) (c_val l Z a0 hw vl 0 h626) P626 (wd hw (k := 36) rfl) (wd hw (k := 2) rfl) (by decide) (by decide)) (argsL := [(.int vl), (.int (0 : Int32))]) (st0 := [(.int (0 : Int32)), (.ref t625)]) (lenOf pd_II_R_F rfl) rfl rfl (Nat.le_of_eq rfl) (by rw [hml]; rfl) (by decide) (by decide) (W.Pure.ok P626.chv) at_69 rfl ?_
    intro v627 T627 h627 L627 q627 P627
    obtain ⟨rfl, rfl, rfl⟩ := q627
    show W.Go p.tables e below _ (T627.setTop (mkF m 72 #[.val (.int pr), .val (.int vl), .val (.int fc), .val (.int dn), .val (.int (15 : Int32)), .val (.int (4 : Int32)), .val (.ref t624), .val (.ref t625), .val (.int (0 : Int32)), .unset, .unset, .unset, .unset] [(.float (FP.i2f (own_vb vl 0))), (.int (0 : Int32)), (.ref t625)]))
    refine P627.stF (pc1 := 73) (i := 0) Vf626 (by decide) (by decide) (Nat.le_of_ble_eq_true rfl) rfl (Or.inr (Nat.le_trans P624.sz g625)) (Safe.arv P627.al Vf626 (by decide)) at_72 rfl ?_
    intro T628 h628 P628 W628 V628
    have Vd628 := V626.other W628 hdf
    refine W.g_iinc (pc1 := 76) (ls2 := #[.val (.int pr), .val (.int vl), .val (.int fc), .val (.int dn), .val (.int (15 : Int32)), .val (.int (4 : Int32)), .val (.ref t624), .val (.ref t625), .val (.int ((0 : Int32) + Int32.ofInt 1)), .unset, .unset, .unset, .unset]) P628.q at_73 rfl rfl rfl ?_
    show W.Go p.tables e below _ (T628.setTop (mkF m 76 #[.val (.int pr), .val (.int vl), .val (.int fc), .val (.int dn), .val (.int (15 : Int32)), .val (.int (4 : Int32)), .val (.ref t624), .val (.ref t625), .val (.int (1 : Int32)), .unset, .unset, .unset, .unset] []))
    refine W.g_iload (pc1 := 78) P628.q at_76 rfl rfl ?_
    refine W.g_iconst (pc1 := 79) (v := (2 : Int32)) P628.q at_78 (by decide) rfl ?_
    refine W.g_iand (pc1 := 80) P628.q at_79 rfl ?_
    refine W.g_ifN (pc2 := 83) P628.q at_80 rfl (by decide) ?_
    refine W.g_aload (pc1 := 85) P628.q at_83 rfl rfl rfl ?_
    refine W.g_iload (pc1 := 87) P628.q at_85 rfl rfl ?_
    refine W.g_iconst (pc1 := 88) (v := (1 : Int32)) P628.q at_87 (by decide) rfl ?_
    refine P628.stI (pc1 := 89) (i := 1) Vd628 (by decide) (by decide) (Nat.le_of_ble_eq_true rfl) rfl (Or.inr (Nat.le_trans P0.sz g624)) (Safe.arv P628.al Vd628 (by decide)) at_88 rfl ?_
    intro T629 h629 P629 W629 V629
    have Vf629 := V628.other W629 (Ne.symm hdf)
    refine W.g_aload (pc1 := 91) P629.q at_89 rfl rfl rfl ?_
    refine W.g_iload (pc1 := 93) P629.q at_91 rfl rfl ?_
    refine W.g_iloadN (pc1 := 94) P629.q at_93 rfl rfl ?_
    refine W.g_iconst (pc1 := 95) (v := (1 : Int32)) P629.q at_94 (by decide) rfl ?_
    refine P629.callS (pc1 := 98) (wd hw (k := 34) rfl) (wd hw (k := 35) rfl) (wd hw (k := 2) rfl) (wd hw (k := 36) rfl) (by decide) (W.MetN.pay (W := 2) (c_val l Z a0 hw vl 1 h629) P629 (wd hw (k := 36) rfl) (wd hw (k := 2) rfl) (by decide) (by decide)) (argsL := [(.int vl), (.int (1 : Int32))]) (st0 := [(.int (1 : Int32)), (.ref t625)]) (lenOf pd_II_R_F rfl) rfl rfl (Nat.le_of_eq rfl) (by rw [hml]; rfl) (by decide) (by decide) (W.Pure.ok P629.chv) at_95 rfl ?_
    intro v630 T630 h630 L630 q630 P630
    obtain ⟨rfl, rfl, rfl⟩ := q630
    show W.Go p.tables e below _ (T630.setTop (mkF m 98 #[.val (.int pr), .val (.int vl), .val (.int fc), .val (.int dn), .val (.int (15 : Int32)), .val (.int (4 : Int32)), .val (.ref t624), .val (.ref t625), .val (.int (1 : Int32)), .unset, .unset, .unset, .unset] [(.float (FP.i2f (own_vb vl 1))), (.int (1 : Int32)), (.ref t625)]))
    refine P630.stF (pc1 := 99) (i := 1) Vf629 (by decide) (by decide) (Nat.le_of_ble_eq_true rfl) rfl (Or.inr (Nat.le_trans P624.sz g625)) (Safe.arv P630.al Vf629 (by decide)) at_98 rfl ?_
    intro T631 h631 P631 W631 V631
    have Vd631 := V629.other W631 hdf
    refine W.g_iinc (pc1 := 102) (ls2 := #[.val (.int pr), .val (.int vl), .val (.int fc), .val (.int dn), .val (.int (15 : Int32)), .val (.int (4 : Int32)), .val (.ref t624), .val (.ref t625), .val (.int ((1 : Int32) + Int32.ofInt 1)), .unset, .unset, .unset, .unset]) P631.q at_99 rfl rfl rfl ?_
    show W.Go p.tables e below _ (T631.setTop (mkF m 102 #[.val (.int pr), .val (.int vl), .val (.int fc), .val (.int dn), .val (.int (15 : Int32)), .val (.int (4 : Int32)), .val (.ref t624), .val (.ref t625), .val (.int (2 : Int32)), .unset, .unset, .unset, .unset] []))
    refine W.g_iload (pc1 := 104) P631.q at_102 rfl rfl ?_
    refine W.g_iconst (pc1 := 105) (v := (4 : Int32)) P631.q at_104 (by decide) rfl ?_
    refine W.g_iand (pc1 := 106) P631.q at_105 rfl ?_
    refine W.g_ifN (pc2 := 109) P631.q at_106 rfl (by decide) ?_
    refine W.g_aload (pc1 := 111) P631.q at_109 rfl rfl rfl ?_
    refine W.g_iload (pc1 := 113) P631.q at_111 rfl rfl ?_
    refine W.g_iconst (pc1 := 114) (v := (2 : Int32)) P631.q at_113 (by decide) rfl ?_
    refine P631.stI (pc1 := 115) (i := 2) Vd631 (by decide) (by decide) (Nat.le_of_ble_eq_true rfl) rfl (Or.inr (Nat.le_trans P0.sz g624)) (Safe.arv P631.al Vd631 (by decide)) at_114 rfl ?_
    intro T632 h632 P632 W632 V632
    have Vf632 := V631.other W632 (Ne.symm hdf)
    refine W.g_aload (pc1 := 117) P632.q at_115 rfl rfl rfl ?_
    refine W.g_iload (pc1 := 119) P632.q at_117 rfl rfl ?_
    refine W.g_iloadN (pc1 := 120) P632.q at_119 rfl rfl ?_
    refine W.g_iconst (pc1 := 121) (v := (2 : Int32)) P632.q at_120 (by decide) rfl ?_
    refine P632.callS (pc1 := 124) (wd hw (k := 34) rfl) (wd hw (k := 35) rfl) (wd hw (k := 2) rfl) (wd hw (k := 36) rfl) (by decide) (W.MetN.pay (W := 2) (c_val l Z a0 hw vl 2 h632) P632 (wd hw (k := 36) rfl) (wd hw (k := 2) rfl) (by decide) (by decide)) (argsL := [(.int vl), (.int (2 : Int32))]) (st0 := [(.int (2 : Int32)), (.ref t625)]) (lenOf pd_II_R_F rfl) rfl rfl (Nat.le_of_eq rfl) (by rw [hml]; rfl) (by decide) (by decide) (W.Pure.ok P632.chv) at_121 rfl ?_
    intro v633 T633 h633 L633 q633 P633
    obtain ⟨rfl, rfl, rfl⟩ := q633
    show W.Go p.tables e below _ (T633.setTop (mkF m 124 #[.val (.int pr), .val (.int vl), .val (.int fc), .val (.int dn), .val (.int (15 : Int32)), .val (.int (4 : Int32)), .val (.ref t624), .val (.ref t625), .val (.int (2 : Int32)), .unset, .unset, .unset, .unset] [(.float (FP.i2f (own_vb vl 2))), (.int (2 : Int32)), (.ref t625)]))
    refine P633.stF (pc1 := 125) (i := 2) Vf632 (by decide) (by decide) (Nat.le_of_ble_eq_true rfl) rfl (Or.inr (Nat.le_trans P624.sz g625)) (Safe.arv P633.al Vf632 (by decide)) at_124 rfl ?_
    intro T634 h634 P634 W634 V634
    have Vd634 := V632.other W634 hdf
    refine W.g_iinc (pc1 := 128) (ls2 := #[.val (.int pr), .val (.int vl), .val (.int fc), .val (.int dn), .val (.int (15 : Int32)), .val (.int (4 : Int32)), .val (.ref t624), .val (.ref t625), .val (.int ((2 : Int32) + Int32.ofInt 1)), .unset, .unset, .unset, .unset]) P634.q at_125 rfl rfl rfl ?_
    show W.Go p.tables e below _ (T634.setTop (mkF m 128 #[.val (.int pr), .val (.int vl), .val (.int fc), .val (.int dn), .val (.int (15 : Int32)), .val (.int (4 : Int32)), .val (.ref t624), .val (.ref t625), .val (.int (3 : Int32)), .unset, .unset, .unset, .unset] []))
    refine W.g_iload (pc1 := 130) P634.q at_128 rfl rfl ?_
    refine W.g_bipush (pc1 := 132) (v := (8 : Int32)) P634.q at_130 (by decide) rfl ?_
    refine W.g_iand (pc1 := 133) P634.q at_132 rfl ?_
    refine W.g_ifN (pc2 := 136) P634.q at_133 rfl (by decide) ?_
    refine W.g_aload (pc1 := 138) P634.q at_136 rfl rfl rfl ?_
    refine W.g_iload (pc1 := 140) P634.q at_138 rfl rfl ?_
    refine W.g_iconst (pc1 := 141) (v := (3 : Int32)) P634.q at_140 (by decide) rfl ?_
    refine P634.stI (pc1 := 142) (i := 3) Vd634 (by decide) (by decide) (Nat.le_of_ble_eq_true rfl) rfl (Or.inr (Nat.le_trans P0.sz g624)) (Safe.arv P634.al Vd634 (by decide)) at_141 rfl ?_
    intro T635 h635 P635 W635 V635
    have Vf635 := V634.other W635 (Ne.symm hdf)
    refine W.g_aload (pc1 := 144) P635.q at_142 rfl rfl rfl ?_
    refine W.g_iload (pc1 := 146) P635.q at_144 rfl rfl ?_
    refine W.g_iloadN (pc1 := 147) P635.q at_146 rfl rfl ?_
    refine W.g_iconst (pc1 := 148) (v := (3 : Int32)) P635.q at_147 (by decide) rfl ?_
    refine P635.callS (pc1 := 151) (wd hw (k := 34) rfl) (wd hw (k := 35) rfl) (wd hw (k := 2) rfl) (wd hw (k := 36) rfl) (by decide) (W.MetN.pay (W := 2) (c_val l Z a0 hw vl 3 h635) P635 (wd hw (k := 36) rfl) (wd hw (k := 2) rfl) (by decide) (by decide)) (argsL := [(.int vl), (.int (3 : Int32))]) (st0 := [(.int (3 : Int32)), (.ref t625)]) (lenOf pd_II_R_F rfl) rfl rfl (Nat.le_of_eq rfl) (by rw [hml]; rfl) (by decide) (by decide) (W.Pure.ok P635.chv) at_148 rfl ?_
    intro v636 T636 h636 L636 q636 P636
    obtain ⟨rfl, rfl, rfl⟩ := q636
    show W.Go p.tables e below _ (T636.setTop (mkF m 151 #[.val (.int pr), .val (.int vl), .val (.int fc), .val (.int dn), .val (.int (15 : Int32)), .val (.int (4 : Int32)), .val (.ref t624), .val (.ref t625), .val (.int (3 : Int32)), .unset, .unset, .unset, .unset] [(.float (FP.i2f (own_vb vl 3))), (.int (3 : Int32)), (.ref t625)]))
    refine P636.stF (pc1 := 152) (i := 3) Vf635 (by decide) (by decide) (Nat.le_of_ble_eq_true rfl) rfl (Or.inr (Nat.le_trans P624.sz g625)) (Safe.arv P636.al Vf635 (by decide)) at_151 rfl ?_
    intro T637 h637 P637 W637 V637
    have Vd637 := V635.other W637 hdf
    refine W.g_iinc (pc1 := 155) (ls2 := #[.val (.int pr), .val (.int vl), .val (.int fc), .val (.int dn), .val (.int (15 : Int32)), .val (.int (4 : Int32)), .val (.ref t624), .val (.ref t625), .val (.int ((3 : Int32) + Int32.ofInt 1)), .unset, .unset, .unset, .unset]) P637.q at_152 rfl rfl rfl ?_
    show W.Go p.tables e below _ (T637.setTop (mkF m 155 #[.val (.int pr), .val (.int vl), .val (.int fc), .val (.int dn), .val (.int (15 : Int32)), .val (.int (4 : Int32)), .val (.ref t624), .val (.ref t625), .val (.int (4 : Int32)), .unset, .unset, .unset, .unset] []))
    refine W.g_iconst (pc1 := 156) (v := (4 : Int32)) P637.q at_155 (by decide) rfl ?_
    refine P637.newP (pc1 := 158) (cap := 4) (wd hw (k := 9) rfl) (by decide) (by decide) (by decide) (by decide) (by decide) at_156 rfl ?_
    intro T638 h638 x638 k638 g638 P638 E638 V638
    have Vd638 := Vd637.ext E638
    have Vf638 := V637.ext E638
    have hdz : t624 ≠ x638 := Nat.ne_of_lt (by rw [g638]; exact Vd637.lt)
    have hfz : t625 ≠ x638 := Nat.ne_of_lt (by rw [g638]; exact V637.lt)
    refine W.g_astore (pc1 := 160) (ls2 := #[.val (.int pr), .val (.int vl), .val (.int fc), .val (.int dn), .val (.int (15 : Int32)), .val (.int (4 : Int32)), .val (.ref t624), .val (.ref t625), .val (.int (4 : Int32)), .val (.ref x638), .unset, .unset, .unset]) P638.q at_158 rfl rfl rfl ?_
    refine W.g_aload (pc1 := 162) P638.q at_160 rfl rfl rfl ?_
    refine W.g_iconst (pc1 := 163) (v := (0 : Int32)) P638.q at_162 (by decide) rfl ?_
    refine W.g_iloadN (pc1 := 164) P638.q at_163 rfl rfl ?_
    refine W.g_iconst (pc1 := 165) (v := (0 : Int32)) P638.q at_164 (by decide) rfl ?_
    refine P638.callS (pc1 := 168) (wd hw (k := 10) rfl) (wd hw (k := 11) rfl) (wd hw (k := 2) rfl) (wd hw (k := 12) rfl) (by decide) (W.MetN.pay (W := 2) (c_dv l Z a0 hw dn 0 h638) P638 (wd hw (k := 12) rfl) (wd hw (k := 2) rfl) (by decide) (by decide)) (argsL := [(.int dn), (.int (0 : Int32))]) (st0 := [(.int (0 : Int32)), (.ref x638)]) (lenOf pd_II_R_D rfl) rfl rfl (Nat.le_of_eq rfl) (by rw [hml]; rfl) (by decide) (by decide) (W.Pure.ok P638.chv) at_165 rfl ?_
    intro v639 T639 h639 L639 q639 P639
    obtain ⟨rfl, rfl, rfl⟩ := q639
    show W.Go p.tables e below _ (T639.setTop (mkF m 168 #[.val (.int pr), .val (.int vl), .val (.int fc), .val (.int dn), .val (.int (15 : Int32)), .val (.int (4 : Int32)), .val (.ref t624), .val (.ref t625), .val (.int (4 : Int32)), .val (.ref x638), .unset, .unset, .unset] [(.double (FP.i2d (own_db dn 0))), (.int (0 : Int32)), (.ref x638)]))
    refine P639.stD (pc1 := 169) (i := 0) V638 (by decide) (by decide) (Nat.le_of_ble_eq_true rfl) rfl (Or.inr (by rw [g638]; exact P637.sz)) (Safe.arv P639.al V638 (by decide)) at_168 rfl ?_
    intro T640 h640 P640 W640 V640
    have Vd640 := Vd638.other W640 hdz
    have Vf640 := Vf638.other W640 hfz
    refine W.g_aload (pc1 := 171) P640.q at_169 rfl rfl rfl ?_
    refine W.g_iconst (pc1 := 172) (v := (1 : Int32)) P640.q at_171 (by decide) rfl ?_
    refine W.g_iloadN (pc1 := 173) P640.q at_172 rfl rfl ?_
    refine W.g_iconst (pc1 := 174) (v := (1 : Int32)) P640.q at_173 (by decide) rfl ?_
    refine P640.callS (pc1 := 177) (wd hw (k := 10) rfl) (wd hw (k := 11) rfl) (wd hw (k := 2) rfl) (wd hw (k := 12) rfl) (by decide) (W.MetN.pay (W := 2) (c_dv l Z a0 hw dn 1 h640) P640 (wd hw (k := 12) rfl) (wd hw (k := 2) rfl) (by decide) (by decide)) (argsL := [(.int dn), (.int (1 : Int32))]) (st0 := [(.int (1 : Int32)), (.ref x638)]) (lenOf pd_II_R_D rfl) rfl rfl (Nat.le_of_eq rfl) (by rw [hml]; rfl) (by decide) (by decide) (W.Pure.ok P640.chv) at_174 rfl ?_
    intro v641 T641 h641 L641 q641 P641
    obtain ⟨rfl, rfl, rfl⟩ := q641
    show W.Go p.tables e below _ (T641.setTop (mkF m 177 #[.val (.int pr), .val (.int vl), .val (.int fc), .val (.int dn), .val (.int (15 : Int32)), .val (.int (4 : Int32)), .val (.ref t624), .val (.ref t625), .val (.int (4 : Int32)), .val (.ref x638), .unset, .unset, .unset] [(.double (FP.i2d (own_db dn 1))), (.int (1 : Int32)), (.ref x638)]))
    refine P641.stD (pc1 := 178) (i := 1) V640 (by decide) (by decide) (Nat.le_of_ble_eq_true rfl) rfl (Or.inr (by rw [g638]; exact P637.sz)) (Safe.arv P641.al V640 (by decide)) at_177 rfl ?_
    intro T642 h642 P642 W642 V642
    have Vd642 := Vd640.other W642 hdz
    have Vf642 := Vf640.other W642 hfz
    refine W.g_aload (pc1 := 180) P642.q at_178 rfl rfl rfl ?_
    refine W.g_iconst (pc1 := 181) (v := (2 : Int32)) P642.q at_180 (by decide) rfl ?_
    refine W.g_iloadN (pc1 := 182) P642.q at_181 rfl rfl ?_
    refine W.g_iconst (pc1 := 183) (v := (2 : Int32)) P642.q at_182 (by decide) rfl ?_
    refine P642.callS (pc1 := 186) (wd hw (k := 10) rfl) (wd hw (k := 11) rfl) (wd hw (k := 2) rfl) (wd hw (k := 12) rfl) (by decide) (W.MetN.pay (W := 2) (c_dv l Z a0 hw dn 2 h642) P642 (wd hw (k := 12) rfl) (wd hw (k := 2) rfl) (by decide) (by decide)) (argsL := [(.int dn), (.int (2 : Int32))]) (st0 := [(.int (2 : Int32)), (.ref x638)]) (lenOf pd_II_R_D rfl) rfl rfl (Nat.le_of_eq rfl) (by rw [hml]; rfl) (by decide) (by decide) (W.Pure.ok P642.chv) at_183 rfl ?_
    intro v643 T643 h643 L643 q643 P643
    obtain ⟨rfl, rfl, rfl⟩ := q643
    show W.Go p.tables e below _ (T643.setTop (mkF m 186 #[.val (.int pr), .val (.int vl), .val (.int fc), .val (.int dn), .val (.int (15 : Int32)), .val (.int (4 : Int32)), .val (.ref t624), .val (.ref t625), .val (.int (4 : Int32)), .val (.ref x638), .unset, .unset, .unset] [(.double (FP.i2d (own_db dn 2))), (.int (2 : Int32)), (.ref x638)]))
    refine P643.stD (pc1 := 187) (i := 2) V642 (by decide) (by decide) (Nat.le_of_ble_eq_true rfl) rfl (Or.inr (by rw [g638]; exact P637.sz)) (Safe.arv P643.al V642 (by decide)) at_186 rfl ?_
    intro T644 h644 P644 W644 V644
    have Vd644 := Vd642.other W644 hdz
    have Vf644 := Vf642.other W644 hfz
    refine W.g_aload (pc1 := 189) P644.q at_187 rfl rfl rfl ?_
    refine W.g_iconst (pc1 := 190) (v := (3 : Int32)) P644.q at_189 (by decide) rfl ?_
    refine W.g_iloadN (pc1 := 191) P644.q at_190 rfl rfl ?_
    refine W.g_iconst (pc1 := 192) (v := (3 : Int32)) P644.q at_191 (by decide) rfl ?_
    refine P644.callS (pc1 := 195) (wd hw (k := 10) rfl) (wd hw (k := 11) rfl) (wd hw (k := 2) rfl) (wd hw (k := 12) rfl) (by decide) (W.MetN.pay (W := 2) (c_dv l Z a0 hw dn 3 h644) P644 (wd hw (k := 12) rfl) (wd hw (k := 2) rfl) (by decide) (by decide)) (argsL := [(.int dn), (.int (3 : Int32))]) (st0 := [(.int (3 : Int32)), (.ref x638)]) (lenOf pd_II_R_D rfl) rfl rfl (Nat.le_of_eq rfl) (by rw [hml]; rfl) (by decide) (by decide) (W.Pure.ok P644.chv) at_192 rfl ?_
    intro v645 T645 h645 L645 q645 P645
    obtain ⟨rfl, rfl, rfl⟩ := q645
    show W.Go p.tables e below _ (T645.setTop (mkF m 195 #[.val (.int pr), .val (.int vl), .val (.int fc), .val (.int dn), .val (.int (15 : Int32)), .val (.int (4 : Int32)), .val (.ref t624), .val (.ref t625), .val (.int (4 : Int32)), .val (.ref x638), .unset, .unset, .unset] [(.double (FP.i2d (own_db dn 3))), (.int (3 : Int32)), (.ref x638)]))
    refine P645.stD (pc1 := 196) (i := 3) V644 (by decide) (by decide) (Nat.le_of_ble_eq_true rfl) rfl (Or.inr (by rw [g638]; exact P637.sz)) (Safe.arv P645.al V644 (by decide)) at_195 rfl ?_
    intro T646 h646 P646 W646 V646
    have Vd646 := Vd644.other W646 hdz
    have Vf646 := Vf644.other W646 hfz
    refine W.g_iloadN (pc1 := 197) P646.q at_196 rfl rfl ?_
    refine W.g_i2d (pc1 := 198) P646.q at_197 rfl ?_
    refine W.g_dstore (pc1 := 200) (ls2 := #[.val (.int pr), .val (.int vl), .val (.int fc), .val (.int dn), .val (.int (15 : Int32)), .val (.int (4 : Int32)), .val (.ref t624), .val (.ref t625), .val (.int (4 : Int32)), .val (.ref x638), .val (.double (FP.i2d fc)), .second, .unset]) P646.q at_198 rfl rfl ?_
    refine P646.newO (pc1 := 203) (wd hw (k := 13) rfl) (wd hw (k := 14) rfl) (wd hw (k := 15) rfl) (by decide) (by decide) at_200 rfl ?_
    intro T647 h647 x647 g647 P647 E647 A647 D647 U647
    refine W.g_dup (pc1 := 204) P647.q at_203 rfl rfl ?_
    refine W.g_aload (pc1 := 206) P647.q at_204 rfl rfl rfl ?_
    refine W.g_aload (pc1 := 208) P647.q at_206 rfl rfl rfl ?_
    have Ndimensions : Fld Z h647 x647 "com/example/intent_search/intentsearch/rank/CategoryVector" "dimensions" "[I" .null := D647 (Or.inr (wd hw (k := 23) rfl)) (ty := (.array .int)) (by decide)
    have Nvalues : Fld Z h647 x647 "com/example/intent_search/intentsearch/rank/CategoryVector" "values" "[F" .null := D647 (Or.inr (wd hw (k := 25) rfl)) (ty := (.array .float)) (by decide)
    refine P647.callN (pc1 := 211) rfl (wd hw (k := 16) rfl) (wd hw (k := 17) rfl) (wd hw (k := 18) rfl) (by decide) (W.MetN.pay (W := 1) (c_cv l Z a0 hw x647 t624 t625 h647 A647 _ Ndimensions _ Nvalues) P647 (wd hw (k := 18) rfl) (wd hw (k := 15) rfl) (by decide) (by decide)) (argsL := [(.ref t624), (.ref t625)]) (st0 := [(.ref x647)]) (lenOf pd_AIAF_R_V rfl) rfl rfl (Nat.le_of_eq rfl) (by rw [hml]; rfl) (by decide) (by decide) (fun _ _ _ q => ⟨q.2.1.up P647.sz (allS (Or.inr (by rw [g647]; exact P646.sz)) all0), CHr.keep q.2.2.1 (sfS (Safe.exa P647.al A647 (by decide) (by decide)) sf0) P647.chv⟩) at_208 rfl ?_
    intro v648 T648 h648 L648 q648 P648
    obtain ⟨rfl, f648, K648, A648, Fd648, Fv648⟩ := q648
    show W.Go p.tables e below _ (T648.setTop (mkF m 211 #[.val (.int pr), .val (.int vl), .val (.int fc), .val (.int dn), .val (.int (15 : Int32)), .val (.int (4 : Int32)), .val (.ref t624), .val (.ref t625), .val (.int (4 : Int32)), .val (.ref x638), .val (.double (FP.i2d fc)), .second, .unset] [(.ref x647)]))
    have Vdq := (Vd646.ext E647).keep K648 (ninS (Ne.symm (Exa.neArv A647 (Vd646.ext E647) (wd hw (k := 14) rfl))) nin0)
    have Vfq := (Vf646.ext E647).keep K648 (ninS (Ne.symm (Exa.neArv A647 (Vf646.ext E647) (wd hw (k := 14) rfl))) nin0)
    have Vzq := (V646.ext E647).keep K648 (ninS (Ne.symm (Exa.neArv A647 (V646.ext E647) (wd hw (k := 14) rfl))) nin0)
    have hxz : x647 ≠ x638 := Exa.neArv A648 Vzq (wd hw (k := 14) rfl)
    refine W.g_astore (pc1 := 213) (ls2 := #[.val (.int pr), .val (.int vl), .val (.int fc), .val (.int dn), .val (.int (15 : Int32)), .val (.int (4 : Int32)), .val (.ref t624), .val (.ref t625), .val (.int (4 : Int32)), .val (.ref x638), .val (.double (FP.i2d fc)), .second, .val (.ref x647)]) P648.q at_211 rfl rfl rfl ?_
    refine W.g_aload (pc1 := 215) P648.q at_213 rfl rfl rfl ?_
    refine W.g_aload (pc1 := 217) P648.q at_215 rfl rfl rfl ?_
    refine W.g_dload (pc1 := 219) P648.q at_217 rfl rfl ?_
    have ok0 := own_one (f := fc) (own_dbb dn 0) (own_vbb vl 0)
    have ok1 := own_one (f := fc) (own_dbb dn 1) (own_vbb vl 1)
    have ok2 := own_one (f := fc) (own_dbb dn 2) (own_vbb vl 2)
    have ok3 := own_one (f := fc) (own_dbb dn 3) (own_vbb vl 3)
    refine P648.callV (pc1 := 222) A648 (wd hw (k := 26) rfl) (wd hw (k := 27) rfl) (wd hw (k := 29) rfl) (wd hw (k := 28) rfl) (notFace_of_selects (args := #[]) (mvT P648.hz (wd hw (k := 29) rfl))) (by decide) (W.MetN.pay (W := 0) (c_add15 l Z a0 hw x647 t624 t625 x638 _ _ _ (FP.i2d (own_db dn 0)) (FP.i2d (own_db dn 1)) (FP.i2d (own_db dn 2)) (FP.i2d (own_db dn 3)) (FP.i2d fc) (FP.i2f (own_vb vl 0)) ok0.1 ok0.2.1 ok0.2.2 (FP.i2f (own_vb vl 1)) ok1.1 ok1.2.1 ok1.2.2 (FP.i2f (own_vb vl 2)) ok2.1 ok2.2.1 ok2.2.2 (FP.i2f (own_vb vl 3)) ok3.1 ok3.2.1 ok3.2.2 h648 A648 Fd648 Fv648 Vdq Vfq Vzq hdz hfz hxz) P648 (wd hw (k := 30) rfl) (wd hw (k := 15) rfl) (by decide) (by decide)) (argsL := [(.ref x638), (.double (FP.i2d fc))]) (st0 := []) (lenOf pd_ADD_R_V rfl) rfl rfl (Nat.le_of_eq rfl) (by rw [hml]; rfl) (by decide) (by decide) (fun _ _ _ q => ⟨q.2.1.up P648.sz (allS (Or.inr (by rw [g638]; exact P637.sz)) all0), CHr.keep q.2.2.1 (sfS (Safe.arv P648.al Vzq (by decide)) sf0) P648.chv⟩) at_219 rfl ?_
    intro v649 T649 h649 L649 q649 P649
    obtain ⟨rfl, f649, K649, V649⟩ := q649
    show W.Go p.tables e below _ (T649.setTop (mkF m 222 #[.val (.int pr), .val (.int vl), .val (.int fc), .val (.int dn), .val (.int (15 : Int32)), .val (.int (4 : Int32)), .val (.ref t624), .val (.ref t625), .val (.int (4 : Int32)), .val (.ref x638), .val (.double (FP.i2d fc)), .second, .val (.ref x647)] []))
    refine W.g_aload (pc1 := 224) P649.q at_222 rfl rfl rfl ?_
    refine W.g_iconst (pc1 := 225) (v := (0 : Int32)) P649.q at_224 (by decide) rfl ?_
    refine W.g_iload (pc1 := 227) P649.q at_225 rfl rfl ?_
    refine W.g_iloadN (pc1 := 228) P649.q at_227 rfl rfl ?_
    refine W.g_iloadN (pc1 := 229) P649.q at_228 rfl rfl ?_
    refine W.g_dload (pc1 := 231) P649.q at_229 rfl rfl ?_
    refine P649.callS (pc1 := 234) (wd hw (k := 31) rfl) (wd hw (k := 32) rfl) (wd hw (k := 2) rfl) (wd hw (k := 33) rfl) (by decide) (W.MetN.pay (W := 0) (c_chk01 l Z a0 hw x638 _ _ _ _ _ (FP.i2d fc) 15 vl dn (by decide) ok0.1 ok0.2.1 ok0.2.2 (dcmpV_self ok0.2.2 .l) h649 V649) P649 (wd hw (k := 33) rfl) (wd hw (k := 2) rfl) (by decide) (by decide)) (argsL := [(.ref x638), (.int (0 : Int32)), (.int (15 : Int32)), (.int vl), (.int dn), (.double (FP.i2d fc))]) (st0 := []) (lenOf pd_ADIIIID_R_Z rfl) rfl rfl (Nat.le_of_eq rfl) (by rw [hml]; rfl) (by decide) (by decide) (W.Pure.ok P649.chv) at_231 rfl ?_
    intro v650 T650 h650 L650 q650 P650
    obtain ⟨rfl, rfl, rfl⟩ := q650
    show W.Go p.tables e below _ (T650.setTop (mkF m 234 #[.val (.int pr), .val (.int vl), .val (.int fc), .val (.int dn), .val (.int (15 : Int32)), .val (.int (4 : Int32)), .val (.ref t624), .val (.ref t625), .val (.int (4 : Int32)), .val (.ref x638), .val (.double (FP.i2d fc)), .second, .val (.ref x647)] [(.int (1 : Int32))]))
    refine W.g_ifN (pc2 := 237) P650.q at_234 rfl (by decide) ?_
    refine W.g_aload (pc1 := 239) P650.q at_237 rfl rfl rfl ?_
    refine W.g_iconst (pc1 := 240) (v := (1 : Int32)) P650.q at_239 (by decide) rfl ?_
    refine W.g_iload (pc1 := 242) P650.q at_240 rfl rfl ?_
    refine W.g_iloadN (pc1 := 243) P650.q at_242 rfl rfl ?_
    refine W.g_iloadN (pc1 := 244) P650.q at_243 rfl rfl ?_
    refine W.g_dload (pc1 := 246) P650.q at_244 rfl rfl ?_
    refine P650.callS (pc1 := 249) (wd hw (k := 31) rfl) (wd hw (k := 32) rfl) (wd hw (k := 2) rfl) (wd hw (k := 33) rfl) (by decide) (W.MetN.pay (W := 0) (c_chk11 l Z a0 hw x638 _ _ _ _ _ (FP.i2d fc) 15 vl dn (by decide) ok1.1 ok1.2.1 ok1.2.2 (dcmpV_self ok1.2.2 .l) h649 V649) P650 (wd hw (k := 33) rfl) (wd hw (k := 2) rfl) (by decide) (by decide)) (argsL := [(.ref x638), (.int (1 : Int32)), (.int (15 : Int32)), (.int vl), (.int dn), (.double (FP.i2d fc))]) (st0 := []) (lenOf pd_ADIIIID_R_Z rfl) rfl rfl (Nat.le_of_eq rfl) (by rw [hml]; rfl) (by decide) (by decide) (W.Pure.ok P650.chv) at_246 rfl ?_
    intro v651 T651 h651 L651 q651 P651
    obtain ⟨rfl, rfl, rfl⟩ := q651
    show W.Go p.tables e below _ (T651.setTop (mkF m 249 #[.val (.int pr), .val (.int vl), .val (.int fc), .val (.int dn), .val (.int (15 : Int32)), .val (.int (4 : Int32)), .val (.ref t624), .val (.ref t625), .val (.int (4 : Int32)), .val (.ref x638), .val (.double (FP.i2d fc)), .second, .val (.ref x647)] [(.int (1 : Int32))]))
    refine W.g_ifN (pc2 := 252) P651.q at_249 rfl (by decide) ?_
    refine W.g_aload (pc1 := 254) P651.q at_252 rfl rfl rfl ?_
    refine W.g_iconst (pc1 := 255) (v := (2 : Int32)) P651.q at_254 (by decide) rfl ?_
    refine W.g_iload (pc1 := 257) P651.q at_255 rfl rfl ?_
    refine W.g_iloadN (pc1 := 258) P651.q at_257 rfl rfl ?_
    refine W.g_iloadN (pc1 := 259) P651.q at_258 rfl rfl ?_
    refine W.g_dload (pc1 := 261) P651.q at_259 rfl rfl ?_
    refine P651.callS (pc1 := 264) (wd hw (k := 31) rfl) (wd hw (k := 32) rfl) (wd hw (k := 2) rfl) (wd hw (k := 33) rfl) (by decide) (W.MetN.pay (W := 0) (c_chk21 l Z a0 hw x638 _ _ _ _ _ (FP.i2d fc) 15 vl dn (by decide) ok2.1 ok2.2.1 ok2.2.2 (dcmpV_self ok2.2.2 .l) h649 V649) P651 (wd hw (k := 33) rfl) (wd hw (k := 2) rfl) (by decide) (by decide)) (argsL := [(.ref x638), (.int (2 : Int32)), (.int (15 : Int32)), (.int vl), (.int dn), (.double (FP.i2d fc))]) (st0 := []) (lenOf pd_ADIIIID_R_Z rfl) rfl rfl (Nat.le_of_eq rfl) (by rw [hml]; rfl) (by decide) (by decide) (W.Pure.ok P651.chv) at_261 rfl ?_
    intro v652 T652 h652 L652 q652 P652
    obtain ⟨rfl, rfl, rfl⟩ := q652
    show W.Go p.tables e below _ (T652.setTop (mkF m 264 #[.val (.int pr), .val (.int vl), .val (.int fc), .val (.int dn), .val (.int (15 : Int32)), .val (.int (4 : Int32)), .val (.ref t624), .val (.ref t625), .val (.int (4 : Int32)), .val (.ref x638), .val (.double (FP.i2d fc)), .second, .val (.ref x647)] [(.int (1 : Int32))]))
    refine W.g_ifN (pc2 := 267) P652.q at_264 rfl (by decide) ?_
    refine W.g_aload (pc1 := 269) P652.q at_267 rfl rfl rfl ?_
    refine W.g_iconst (pc1 := 270) (v := (3 : Int32)) P652.q at_269 (by decide) rfl ?_
    refine W.g_iload (pc1 := 272) P652.q at_270 rfl rfl ?_
    refine W.g_iloadN (pc1 := 273) P652.q at_272 rfl rfl ?_
    refine W.g_iloadN (pc1 := 274) P652.q at_273 rfl rfl ?_
    refine W.g_dload (pc1 := 276) P652.q at_274 rfl rfl ?_
    refine P652.callS (pc1 := 279) (wd hw (k := 31) rfl) (wd hw (k := 32) rfl) (wd hw (k := 2) rfl) (wd hw (k := 33) rfl) (by decide) (W.MetN.pay (W := 0) (c_chk31 l Z a0 hw x638 _ _ _ _ _ (FP.i2d fc) 15 vl dn (by decide) ok3.1 ok3.2.1 ok3.2.2 (dcmpV_self ok3.2.2 .l) h649 V649) P652 (wd hw (k := 33) rfl) (wd hw (k := 2) rfl) (by decide) (by decide)) (argsL := [(.ref x638), (.int (3 : Int32)), (.int (15 : Int32)), (.int vl), (.int dn), (.double (FP.i2d fc))]) (st0 := []) (lenOf pd_ADIIIID_R_Z rfl) rfl rfl (Nat.le_of_eq rfl) (by rw [hml]; rfl) (by decide) (by decide) (W.Pure.ok P652.chv) at_276 rfl ?_
    intro v653 T653 h653 L653 q653 P653
    obtain ⟨rfl, rfl, rfl⟩ := q653
    show W.Go p.tables e below _ (T653.setTop (mkF m 279 #[.val (.int pr), .val (.int vl), .val (.int fc), .val (.int dn), .val (.int (15 : Int32)), .val (.int (4 : Int32)), .val (.ref t624), .val (.ref t625), .val (.int (4 : Int32)), .val (.ref x638), .val (.double (FP.i2d fc)), .second, .val (.ref x647)] [(.int (1 : Int32))]))
    refine W.g_ifN (pc2 := 282) P653.q at_279 rfl (by decide) ?_
    refine W.g_iconst (pc1 := 283) (v := (1 : Int32)) P653.q at_282 (by decide) rfl ?_
    refine W.g_goto (pc1 := 287) P653.q at_283 (by decide) rfl ?_
    exact P653.retVN hlk hret (Or.inl rfl) at_287 (by decide) (by decide) ⟨rfl, P653.fr⟩
set_option maxRecDepth 65536 in
set_option maxHeartbeats 40000000 in
theorem comes_1 {Post : Tables → Env → Array Value → State → Outcome → State → Prop} (hpost : ∀ tb e args s v u, (limb_1_1.after args s (.returned v) u = true ∧ limb_1_2.after args s (.returned v) u = true ∧ True) → FrameEnd s (.returned v) u (Jvm.fieldLocs frame_1_writes args s ++ Jvm.arrayLocs frame_1_arrays args s ++ Jvm.staticLocs frame_1_statics s) 16 128 → Post tb e args s (.returned v) u) :
    ArmFor flags0 classFile x code maxLocals ret World_1 tables_1 room_1 Calls_1 rest_1 Pre_1 Post := by
  intro l hfl _ _ p e ha hc hk s m args below hf hA hF happ hP
  obtain ⟨hcalls, hrest, hpre⟩ := hP
  obtain ⟨-, -, -, hnamed, -, -, -, hat⟩ := (Spec.applies_iff hf).mp happ
  obtain ⟨hg, hn⟩ := and_e (Cond.before_iff.mp (show (Jvm.Cond.and given_1 narrow_1).before args s = true from hpre))
  obtain ⟨hcnt, hg0⟩ := and_e hg
  obtain ⟨ga0, hg1⟩ := and_e hg0
  obtain ⟨ga1, hg2⟩ := and_e hg1
  obtain ⟨ga2, hg3⟩ := and_e hg2
  have ga3 := hg3
  obtain ⟨w0, w1, w2, w3, rfl⟩ : ∃ w0 w1 w2 w3 : Value, args = #[w0, w1, w2, w3] := by
    have hs : args.size = 4 := by simpa [Cond.value, given_1] using hcnt
    obtain ⟨L⟩ := args
    match L, hs with
    | [w0, w1, w2, w3], _ => exact ⟨w0, w1, w2, w3, rfl⟩
  have hw := fun d (hd : d ∈ tables_1) => atoms_spec (ws := Jvm.Cond.code x code maxLocals ret :: tables_1) hat d (List.mem_cons_of_mem _ hd)
  obtain ⟨i0, ei0⟩ := is_v ga0
  obtain rfl : w0 = (.int i0) := Option.some.inj ei0
  obtain ⟨i1, ei1⟩ := is_v ga1
  obtain rfl : w1 = (.int i1) := Option.some.inj ei1
  obtain ⟨i2, ei2⟩ := is_v ga2
  obtain rfl : w2 = (.int i2) := Option.some.inj ei2
  obtain ⟨i3, ei3⟩ := is_v ga3
  obtain rfl : w3 = (.int i3) := Option.some.inj ei3
  obtain ⟨n, o, h1, h2, h3, _, L, rfl, ⟨rfl, N⟩, hq⟩ := rm1 l s _ hw i0 i1 i2 i3 s.heap p e ha hc hk s m _ below hf ((Spec.applies_iff_loose hf).mp happ).1 ⟨rfl, State.Warmed39.refl s, rfl⟩ trivial
  refine ⟨n, _, h1, h2, h3, hpost _ _ _ _ _ _ ⟨Cond.after_iff.mpr rfl, Cond.after_iff.mpr (eq_i res_at (Term.int_eval (1)) rfl), trivial⟩ ⟨hq.1, hq.2.1, (hq.2.2.sift fun y hy => Or.inr ((N y hy).elim (fun q => nomatch q) id)).mono (by decide) (by decide)⟩⟩
theorem main_1_1 : Claimed_1_1 := comes_1 fun _ _ _ _ _ _ h hF => ⟨h.1, hF⟩
theorem main_1_2 : Claimed_1_2 := comes_1 fun _ _ _ _ _ _ h hF => ⟨h.2.1, hF⟩
end Jvm.Pilot.@@N@@
namespace Jvm.Pilot.@@N@@
open Jvm Jvm.ClassFile Sem Op Lib Jvm.Free Jvm.Stand Jvm.Pilot.@@N@@.Jvm.D
/-! MADE BY PROGRAM (witnessworld.py) out of the Statement's table words and the real class files: 13 classes; the members and pool entries that the words name. The judged class is class 1, her method 6. -/
namespace start1
open Jvm.ClassFile
def u (s : String) : CpInfo := .utf8 (stringToUtf16 s)
/-- a pool by its gaps: so many unusable entries, then the entry; so many at the end -/
def gap : Nat → List CpInfo → List CpInfo
  | 0, r => r
  | n + 1, r => .unusable :: gap n r
def poolList (es : List (Nat × CpInfo)) (last : Nat) : List CpInfo := es.foldr (fun e r => gap e.1 (e.2 :: r)) (gap last [])
def pool (es : List (Nat × CpInfo)) (last : Nat) : Array CpInfo := ⟨poolList es last⟩
def fileOf (pool : Array CpInfo) (this : Nat) (attrs : Array Attribute := #[]) (ms : Array MethodInfo := #[]) (fl : Nat := 33) (sup : Nat := 0) (ifs : Array Nat := #[]) (fds : Array FieldInfo := #[]) : ClassFile where
  minorVersion := 0
  majorVersion := 65
  constantPool := pool
  accessFlags := fl
  thisClass := this
  superClass := sup
  interfaces := ifs
  fields := fds
  methods := ms
  attributes := attrs
def plain (name : String) (sup : Option ClassId) : Class where
  name := name
  kind := .ordinary
  loader := none
  accessFlags := 33
  super := sup
  interfaces := #[]
  cf := none
  fields := #[]
  methods := #[]
  instanceTypes := #[]
  staticTypes := #[]
  resolved := #[]
  callSites := []
  init := .initialized
  statics := none
  mirror := none

def pool0 : Array CpInfo := pool [(5, u "<init>"), (0, u "()V"), (1, .class_ 10), (1, u "java/lang/Object")] 113

def k0c0 : Code := { maxStack := 0, maxLocals := 1, code := object_method_1_code, exceptionTable := #[], attributes := #[] }
def k0m0 : Method := { name := "<init>", desc := "()V", sig := { parameters := [], returnType := none }, accessFlags := 1, code := some k0c0 }
/-- java/lang/Object -/
def k0 : Class := { plain "java/lang/Object" none with
  accessFlags := 33
  interfaces := #[]
  cf := some (fileOf pool0 8 #[] #[{ accessFlags := 1, nameIndex := 5, descriptorIndex := 6, attributes := #[] }] 33 0 #[] #[])
  fields := #[]
  methods := #[k0m0]
  instanceTypes := #[]
  staticTypes := #[]
  resolved := Array.replicate 124 none
  statics := none }

def pool1 : Array CpInfo := pool [(2, .class_ 4), (1, u "java/lang/Object"), (0, u "<init>"), (0, u "()V"), (0, .methodref 8 9), (0, .class_ 10), (0, .nameAndType 11 12), (0, u "com/example/intent_search/intentsearch/rank/CategoryVectorAddToPinLaw"), (0, u "dv"), (0, u "(II)D"), (0, .methodref 8 14), (0, .nameAndType 15 16), (0, u "val"), (0, u "(II)F"), (0, .methodref 8 18), (0, .nameAndType 19 20), (0, u "newInts"), (0, u "(I)[I"), (0, .methodref 8 22), (0, .nameAndType 23 24), (0, u "newFloats"), (0, u "(I)[F"), (0, .class_ 26), (0, u "com/example/intent_search/intentsearch/rank/CategoryVector"), (0, .methodref 25 28), (0, .nameAndType 5 29), (0, u "([I[F)V"), (0, .methodref 25 31), (0, .nameAndType 32 33), (0, u "addTo"), (0, u "([DD)V"), (0, .methodref 8 35), (0, .nameAndType 36 37), (0, u "check"), (0, u "([DIIIID)Z"), (3, u "law"), (0, u "(IIII)Z")] 8

def k1m0 : Method := { name := "<init>", desc := "()V", sig := { parameters := [], returnType := none }, accessFlags := 1, code := none }
def k1c1 : Code := { maxStack := 3, maxLocals := 3, code := method_2_code, exceptionTable := #[], attributes := #[] }
def k1m1 : Method := { name := "val", desc := "(II)F", sig := { parameters := [.int, .int], returnType := some .float }, accessFlags := 10, code := some k1c1 }
def k1c2 : Code := { maxStack := 3, maxLocals := 2, code := method_3_code, exceptionTable := #[], attributes := #[] }
def k1m2 : Method := { name := "dv", desc := "(II)D", sig := { parameters := [.int, .int], returnType := some .double }, accessFlags := 10, code := some k1c2 }
def k1c3 : Code := { maxStack := 2, maxLocals := 1, code := method_4_code, exceptionTable := #[], attributes := #[] }
def k1m3 : Method := { name := "newInts", desc := "(I)[I", sig := { parameters := [.int], returnType := some (.array .int) }, accessFlags := 10, code := some k1c3 }
def k1c4 : Code := { maxStack := 2, maxLocals := 1, code := method_5_code, exceptionTable := #[], attributes := #[] }
def k1m4 : Method := { name := "newFloats", desc := "(I)[F", sig := { parameters := [.int], returnType := some (.array .float) }, accessFlags := 10, code := some k1c4 }
def k1c5 : Code := { maxStack := 6, maxLocals := 11, code := method_6_code, exceptionTable := #[], attributes := #[] }
def k1m5 : Method := { name := "check", desc := "([DIIIID)Z", sig := { parameters := [(.array .double), .int, .int, .int, .int, .double], returnType := some .boolean }, accessFlags := 10, code := some k1c5 }
def k1c6 : Code := { maxStack := 7, maxLocals := 13, code := code, exceptionTable := #[], attributes := #[] }
def k1m6 : Method := { name := "law", desc := "(IIII)Z", sig := { parameters := [.int, .int, .int, .int], returnType := some .boolean }, accessFlags := 9, code := some k1c6 }
/-- com/example/intent_search/intentsearch/rank/CategoryVectorAddToPinLaw -/
def k1 : Class := { plain "com/example/intent_search/intentsearch/rank/CategoryVectorAddToPinLaw" (some 0) with
  accessFlags := 49
  interfaces := #[]
  cf := some (fileOf pool1 8 #[] #[{ accessFlags := 1, nameIndex := 5, descriptorIndex := 6, attributes := #[] }, { accessFlags := 10, nameIndex := 15, descriptorIndex := 16, attributes := #[] }, { accessFlags := 10, nameIndex := 11, descriptorIndex := 12, attributes := #[] }, { accessFlags := 10, nameIndex := 19, descriptorIndex := 20, attributes := #[] }, { accessFlags := 10, nameIndex := 23, descriptorIndex := 24, attributes := #[] }, { accessFlags := 10, nameIndex := 36, descriptorIndex := 37, attributes := #[] }, { accessFlags := 9, nameIndex := 41, descriptorIndex := 42, attributes := #[] }] 49 2 #[] #[])
  fields := #[]
  methods := #[k1m0, k1m1, k1m2, k1m3, k1m4, k1m5, k1m6]
  instanceTypes := #[]
  staticTypes := #[]
  resolved := Array.replicate 51 none
  statics := none }

def pool2 : Array CpInfo := pool [(1, .methodref 2 3), (0, .class_ 4), (0, .nameAndType 5 6), (0, u "java/lang/Object"), (0, u "<init>"), (0, u "()V"), (0, .fieldref 8 9), (0, .class_ 10), (0, .nameAndType 11 12), (0, u "com/example/intent_search/intentsearch/rank/CategoryVector"), (0, u "dimensions"), (0, u "[I"), (0, .fieldref 8 14), (0, .nameAndType 15 16), (0, u "values"), (0, u "[F"), (20, u "([I[F)V"), (37, u "addTo"), (0, u "([DD)V")] 36

def k2c0 : Code := { maxStack := 2, maxLocals := 3, code := prog_31_method_1_code, exceptionTable := #[], attributes := #[] }
def k2m0 : Method := { name := "<init>", desc := "([I[F)V", sig := { parameters := [(.array .int), (.array .float)], returnType := none }, accessFlags := 0, code := some k2c0 }
def k2c1 : Code := { maxStack := 8, maxLocals := 5, code := prog_31_method_4_code, exceptionTable := #[], attributes := #[] }
def k2m1 : Method := { name := "addTo", desc := "([DD)V", sig := { parameters := [(.array .double), .double], returnType := none }, accessFlags := 0, code := some k2c1 }
/-- com/example/intent_search/intentsearch/rank/CategoryVector -/
def k2 : Class := { plain "com/example/intent_search/intentsearch/rank/CategoryVector" (some 0) with
  accessFlags := 48
  interfaces := #[]
  cf := some (fileOf pool2 8 #[] #[{ accessFlags := 0, nameIndex := 5, descriptorIndex := 37, attributes := #[] }, { accessFlags := 0, nameIndex := 75, descriptorIndex := 76, attributes := #[] }] 48 2 #[] #[{ accessFlags := 18, nameIndex := 11, descriptorIndex := 12, attributes := #[] }, { accessFlags := 18, nameIndex := 15, descriptorIndex := 16, attributes := #[] }])
  fields := #[{ name := "dimensions", type := (.array .int), accessFlags := 18, slot := 0, constantValue := 0 }, { name := "values", type := (.array .float), accessFlags := 18, slot := 1, constantValue := 0 }]
  methods := #[k2m0, k2m1]
  instanceTypes := #[(.array .int), (.array .float)]
  staticTypes := #[]
  resolved := Array.replicate 113 none
  statics := none }

def pool3 : Array CpInfo := pool [(1, u "java/lang/Cloneable"), (0, .class_ 1), (0, u "java/lang/Object"), (0, .class_ 3)] 3

/-- java/lang/Cloneable -/
def k3 : Class := { plain "java/lang/Cloneable" (some 0) with
  accessFlags := 1537
  interfaces := #[]
  cf := some (fileOf pool3 2 #[] #[] 1537 4 #[] #[])
  fields := #[]
  methods := #[]
  instanceTypes := #[]
  staticTypes := #[]
  resolved := Array.replicate 8 none
  statics := none }

def pool4 : Array CpInfo := pool [(1, u "java/io/Serializable"), (0, .class_ 1), (0, u "java/lang/Object"), (0, .class_ 3)] 3

/-- java/io/Serializable -/
def k4 : Class := { plain "java/io/Serializable" (some 0) with
  accessFlags := 1537
  interfaces := #[]
  cf := some (fileOf pool4 2 #[] #[] 1537 4 #[] #[])
  fields := #[]
  methods := #[]
  instanceTypes := #[]
  staticTypes := #[]
  resolved := Array.replicate 8 none
  statics := none }

/-- the primitive byte -/
def k5 : Class := { plain "byte" none with kind := .primitive 'B', accessFlags := 0x411 }
/-- [B -/
def k6 : Class := { plain "[B" (some 0) with kind := .array 5 .byte, interfaces := #[3, 4], accessFlags := 1041 }

/-- the primitive double -/
def k7 : Class := { plain "double" none with kind := .primitive 'D', accessFlags := 0x411 }
/-- [D -/
def k8 : Class := { plain "[D" (some 0) with kind := .array 7 .double, interfaces := #[3, 4], accessFlags := 1041 }

/-- the primitive float -/
def k9 : Class := { plain "float" none with kind := .primitive 'F', accessFlags := 0x411 }
/-- [F -/
def k10 : Class := { plain "[F" (some 0) with kind := .array 9 .float, interfaces := #[3, 4], accessFlags := 1041 }

/-- the primitive int -/
def k11 : Class := { plain "int" none with kind := .primitive 'I', accessFlags := 0x411 }
/-- [I -/
def k12 : Class := { plain "[I" (some 0) with kind := .array 11 .int, interfaces := #[3, 4], accessFlags := 1041 }

def heap : Heap := #[]
def classes : Array Class := #[k0, k1, k2, k3, k4, k5, k6, k7, k8, k9, k10, k11, k12]
def interned : List (Array UInt16 × Addr) := []
def slotsUsed : Nat := 0
def theMethod : MethodId := ⟨1, 6⟩
def args0 : Array Value := #[.int 5, .int 5, .int 5, .int 5]
def aboutOver (below : List Frame) : State where
  vm := { classes := classes, interned := interned.toArray }
  heap := heap
  slotsUsed := slotsUsed
  threads := #[{ frames := .invoking theMethod args0 :: below }]
def below0 : List Frame := [.native { method := ⟨0, 0⟩, args := #[] }]
def about1 : State := aboutOver below0
def p0 : Program := .bare "" "" ""
def e0 : Env := launch0.env 0 0 0
theorem w_frames : about1.frames = Frame.invoking theMethod args0 :: below0 := rfl
set_option maxRecDepth 65536 in
theorem w_args : argsFit about1.vm theMethod args0 = true := by decide +kernel
set_option maxRecDepth 65536 in
theorem w_heap : heapFits about1 = true := by decide +kernel
set_option maxRecDepth 65536 in
theorem w_runnable : about1.curStatus? = some .runnable := by decide +kernel
set_option maxRecDepth 65536 in
theorem w_alone : about1.alone = true := by decide +kernel
set_option maxRecDepth 65536 in
theorem w_named : about1.methodNamed? x = some theMethod := by decide +kernel
set_option maxRecDepth 65536 in
theorem w_hears : about1.hears theMethod below0 = true := by decide +kernel
set_option maxRecDepth 65536 in
theorem w_ripe : about1.ripe theMethod args0 below0 = true := by decide +kernel
theorem w_running : about1.status = .running := rfl
set_option maxRecDepth 65536 in
theorem w_room : about1.hasRoom e0.platform room_1 = true :=
  launch0.hasRoom_least _ room_1 (by decide +kernel) (by decide +kernel) (by decide +kernel) (by decide +kernel) (by decide +kernel) (by decide +kernel)
theorem allAtoms_all (ts : List Jvm.Cond) (a : Array Jvm.Value) (st : Jvm.State) : (allAtoms ts).before a st = ts.all (fun c => c.before a st) := by
  induction ts with
  | nil => rfl
  | cons c t ih =>
    show (Jvm.Cond.and c (allAtoms t)).before a st = _
    rw [Jvm.Cond.before_and, ih, List.all_cons]
def words1 : List Jvm.Cond := Jvm.Cond.code x code maxLocals ret :: tables_1
/-- a 'code' word, met by the world's own term for the bytes: nothing is compared byte by byte -/
theorem code_word {y : MethodName} {bytes : ByteArray} {mx : Nat} {rt : Option FieldType} {a : Array Value} {s : State} {m : MethodId} {meth : Method} {c : Code} (h1 : s.methodNamed? y = some m) (h2 : s.vm.method? m = some meth) (h3 : meth.code = some c) (h4 : c.code = bytes)
    (h5 : (c.maxLocals == mx && c.exceptionTable.isEmpty && decide (c.maxStack ≤ mostOperands) && decide (meth.sig.returnType = rt) && !meth.locks && decide (parseMethodDescriptor y.desc = some meth.sig)) = true) : (Jvm.Cond.code y bytes mx rt).before a s = true := by
  simp only [Bool.and_eq_true, beq_iff_eq, Bool.not_eq_true', decide_eq_true_eq] at h5
  obtain ⟨⟨⟨⟨⟨g1, g2⟩, g3⟩, g4⟩, g5⟩, g6⟩ := h5
  simp [Cond.before, Cond.holds, Cond.value, h1, h2, h3, h4, g1, g2, g3, g4, g5, g6]
def isCode : Jvm.Cond → Bool
  | .code _ _ _ _ => true
  | _ => false
theorem all_split {L : List Jvm.Cond} {P : Jvm.Cond → Bool} (h1 : L.all (fun c => isCode c || P c) = true) (h2 : ∀ c ∈ L.filter isCode, P c = true) : L.all P = true := by
  refine List.all_eq_true.mpr fun c hc => ?_
  have h := List.all_eq_true.mp h1 c hc
  rcases Bool.eq_false_or_eq_true (isCode c) with hi | hi
  · exact h2 c (List.mem_filter.mpr ⟨hc, hi⟩)
  · simpa [hi] using h
set_option maxRecDepth 65536 in
theorem w_c0 : (Jvm.Cond.code x code maxLocals ret).before args0 about1 = true := code_word (m := ⟨1, 6⟩) (meth := k1m6) (c := k1c6) (by decide +kernel) rfl rfl rfl (by decide +kernel)
set_option maxRecDepth 65536 in
theorem w_c1 : (Jvm.Cond.code ({ cls := "com/example/intent_search/intentsearch/rank/CategoryVectorAddToPinLaw", name := "newInts", desc := "(I)[I" } : Jvm.MethodName) method_4_code (1 : Nat) (Option.some (Jvm.ClassFile.FieldType.array Jvm.ClassFile.FieldType.int))).before args0 about1 = true := code_word (m := ⟨1, 3⟩) (meth := k1m3) (c := k1c3) (by decide +kernel) rfl rfl rfl (by decide +kernel)
set_option maxRecDepth 65536 in
theorem w_c2 : (Jvm.Cond.code ({ cls := "com/example/intent_search/intentsearch/rank/CategoryVectorAddToPinLaw", name := "newFloats", desc := "(I)[F" } : Jvm.MethodName) method_5_code (1 : Nat) (Option.some (Jvm.ClassFile.FieldType.array Jvm.ClassFile.FieldType.float))).before args0 about1 = true := code_word (m := ⟨1, 4⟩) (meth := k1m4) (c := k1c4) (by decide +kernel) rfl rfl rfl (by decide +kernel)
set_option maxRecDepth 65536 in
theorem w_c3 : (Jvm.Cond.code ({ cls := "com/example/intent_search/intentsearch/rank/CategoryVectorAddToPinLaw", name := "dv", desc := "(II)D" } : Jvm.MethodName) method_3_code (2 : Nat) (Option.some Jvm.ClassFile.FieldType.double)).before args0 about1 = true := code_word (m := ⟨1, 2⟩) (meth := k1m2) (c := k1c2) (by decide +kernel) rfl rfl rfl (by decide +kernel)
set_option maxRecDepth 65536 in
theorem w_c4 : (Jvm.Cond.code ({ cls := "com/example/intent_search/intentsearch/rank/CategoryVector", name := "<init>", desc := "([I[F)V" } : Jvm.MethodName) prog_31_method_1_code (3 : Nat) (Option.none : Option Jvm.ClassFile.FieldType)).before args0 about1 = true := code_word (m := ⟨2, 0⟩) (meth := k2m0) (c := k2c0) (by decide +kernel) rfl rfl rfl (by decide +kernel)
set_option maxRecDepth 65536 in
theorem w_c5 : (Jvm.Cond.code ({ cls := "java/lang/Object", name := "<init>", desc := "()V" } : Jvm.MethodName) object_method_1_code (1 : Nat) (Option.none : Option Jvm.ClassFile.FieldType)).before args0 about1 = true := code_word (m := ⟨0, 0⟩) (meth := k0m0) (c := k0c0) (by decide +kernel) rfl rfl rfl (by decide +kernel)
set_option maxRecDepth 65536 in
theorem w_c6 : (Jvm.Cond.code ({ cls := "com/example/intent_search/intentsearch/rank/CategoryVector", name := "addTo", desc := "([DD)V" } : Jvm.MethodName) prog_31_method_4_code (5 : Nat) (Option.none : Option Jvm.ClassFile.FieldType)).before args0 about1 = true := code_word (m := ⟨2, 1⟩) (meth := k2m1) (c := k2c1) (by decide +kernel) rfl rfl rfl (by decide +kernel)
set_option maxRecDepth 65536 in
theorem w_c7 : (Jvm.Cond.code ({ cls := "com/example/intent_search/intentsearch/rank/CategoryVectorAddToPinLaw", name := "check", desc := "([DIIIID)Z" } : Jvm.MethodName) method_6_code (11 : Nat) (Option.some Jvm.ClassFile.FieldType.boolean)).before args0 about1 = true := code_word (m := ⟨1, 5⟩) (meth := k1m5) (c := k1c5) (by decide +kernel) rfl rfl rfl (by decide +kernel)
set_option maxRecDepth 65536 in
theorem w_c8 : (Jvm.Cond.code ({ cls := "com/example/intent_search/intentsearch/rank/CategoryVectorAddToPinLaw", name := "val", desc := "(II)F" } : Jvm.MethodName) method_2_code (3 : Nat) (Option.some Jvm.ClassFile.FieldType.float)).before args0 about1 = true := code_word (m := ⟨1, 1⟩) (meth := k1m1) (c := k1c1) (by decide +kernel) rfl rfl rfl (by decide +kernel)
def codes1 : List Jvm.Cond := [Jvm.Cond.code x code maxLocals ret, Jvm.Cond.code ({ cls := "com/example/intent_search/intentsearch/rank/CategoryVectorAddToPinLaw", name := "newInts", desc := "(I)[I" } : Jvm.MethodName) method_4_code (1 : Nat) (Option.some (Jvm.ClassFile.FieldType.array Jvm.ClassFile.FieldType.int)), Jvm.Cond.code ({ cls := "com/example/intent_search/intentsearch/rank/CategoryVectorAddToPinLaw", name := "newFloats", desc := "(I)[F" } : Jvm.MethodName) method_5_code (1 : Nat) (Option.some (Jvm.ClassFile.FieldType.array Jvm.ClassFile.FieldType.float)), Jvm.Cond.code ({ cls := "com/example/intent_search/intentsearch/rank/CategoryVectorAddToPinLaw", name := "dv", desc := "(II)D" } : Jvm.MethodName) method_3_code (2 : Nat) (Option.some Jvm.ClassFile.FieldType.double), Jvm.Cond.code ({ cls := "com/example/intent_search/intentsearch/rank/CategoryVector", name := "<init>", desc := "([I[F)V" } : Jvm.MethodName) prog_31_method_1_code (3 : Nat) (Option.none : Option Jvm.ClassFile.FieldType), Jvm.Cond.code ({ cls := "java/lang/Object", name := "<init>", desc := "()V" } : Jvm.MethodName) object_method_1_code (1 : Nat) (Option.none : Option Jvm.ClassFile.FieldType), Jvm.Cond.code ({ cls := "com/example/intent_search/intentsearch/rank/CategoryVector", name := "addTo", desc := "([DD)V" } : Jvm.MethodName) prog_31_method_4_code (5 : Nat) (Option.none : Option Jvm.ClassFile.FieldType), Jvm.Cond.code ({ cls := "com/example/intent_search/intentsearch/rank/CategoryVectorAddToPinLaw", name := "check", desc := "([DIIIID)Z" } : Jvm.MethodName) method_6_code (11 : Nat) (Option.some Jvm.ClassFile.FieldType.boolean), Jvm.Cond.code ({ cls := "com/example/intent_search/intentsearch/rank/CategoryVectorAddToPinLaw", name := "val", desc := "(II)F" } : Jvm.MethodName) method_2_code (3 : Nat) (Option.some Jvm.ClassFile.FieldType.float)]
set_option maxRecDepth 65536 in
theorem codes_eq : words1.filter isCode = codes1 := rfl
theorem w_codes : ∀ c ∈ words1.filter isCode, c.before args0 about1 = true := by
  rw [codes_eq]
  intro c hc
  simp only [codes1, List.mem_cons, List.not_mem_nil, or_false] at hc
  rcases hc with rfl | rfl | rfl | rfl | rfl | rfl | rfl | rfl | rfl
  · exact w_c0
  · exact w_c1
  · exact w_c2
  · exact w_c3
  · exact w_c4
  · exact w_c5
  · exact w_c6
  · exact w_c7
  · exact w_c8
set_option maxRecDepth 65536 in
theorem w_t1 : (words1.take 24).all (fun c => isCode c || c.before args0 about1) = true := by decide +kernel
set_option maxRecDepth 65536 in
theorem w_t2 : (words1.drop 24).all (fun c => isCode c || c.before args0 about1) = true := by decide +kernel
theorem w_tables : (allAtoms (Jvm.Cond.code x code maxLocals ret :: tables_1)).before args0 about1 = true := by
  rw [allAtoms_all]
  show words1.all (fun c => c.before args0 about1) = true
  refine all_split ?_ w_codes
  rw [← List.take_append_drop 24 words1, List.all_append, w_t1, w_t2]
  rfl
set_option maxRecDepth 65536 in
theorem w_case : (Jvm.Cond.and given_1 narrow_1).before args0 about1 = true := by decide +kernel
theorem w_applies : (headSpec (Jvm.Cond.code x code maxLocals ret :: tables_1) room_1).applies x e0.platform about1 = true :=
  (Spec.applies_iff w_frames).mpr ⟨w_running, w_runnable, w_alone, w_named, w_hears, w_ripe, w_room, w_tables⟩
theorem atStart : AtStart classFile x code maxLocals ret World_1 tables_1 room_1 Calls_1 rest_1 Pre_1 launch0 p0 e0 about1 theMethod args0 below0 :=
  ⟨lists_1, trivial, launch0.admits_env _ _ _, launch0.least_env, fairChoices_fair.cas, fairChoices_fair.clock, w_frames, w_args, w_heap, w_applies, trivial, trivial, w_case⟩
end start1
theorem witness_1 : WitnessClaimed_1 := ⟨start1.p0, start1.e0, start1.about1, start1.theMethod, start1.args0, start1.below0, start1.atStart⟩
end Jvm.Pilot.@@N@@
