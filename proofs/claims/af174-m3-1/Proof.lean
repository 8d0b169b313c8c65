import JvmDerived
import JvmDerived.Pilot.@@N@@Statement
import JvmDerived.Pilot.@@N@@Code
set_option linter.unusedVariables false
set_option linter.unusedSimpArgs false
namespace Jvm.Pilot.@@N@@
open Jvm Jvm.ClassFile Sem Op Lib Jvm.Free Jvm.Stand Jvm.LawKit Jvm.RoadKit Bundle Jvm.Pilot.@@N@@.Jvm.D
section OwnKit
variable {p : Program} {l : Launch} {e : Env} {R : Room} {s : State} {m : MethodId} {args : Array Value} {below : List Frame} {meth : Method} {c : Code} {T : State} {locs : List Loc} {cells slots : Nat}
def own_G (tb : Tables) (e : Env) (below : List Frame) (s : State) (Q : Option Value → Heap → List Loc → Prop) (k n : Nat) (A : State) : Prop :=
  ∃ u o, Steps tb e below A u ∧ u.status = .running ∧ Ended u below o ∧ ∃ v L, o = Outcome.returned v ∧ Q v u.heap L ∧ FrameEnd s o u L k n
theorem own_go {tb : Tables} {Q : Option Value → Heap → List Loc → Prop} {k n : Nat} {A B : State} (h : ∀ t, Steps tb e below B t → Steps tb e below A t) (g : own_G tb e below s Q k n B) : own_G tb e below s Q k n A := by
  obtain ⟨u, o, h1, r⟩ := g; exact ⟨u, o, h u h1, r⟩
theorem own_ret (X : Stand p l e R s m args below meth c T locs cells slots) (hx : p.tables.exec = Jvm.exec) {pc : Nat} {Ls : Array Slot} {w : Value} {t : FieldType} {i : Instr} {rest : List Value} (hret : meth.sig.returnType = some t) (hn : narrow t w = w)
    (hi : (i = .ireturn ∧ (t = .int ∨ t = .boolean ∨ t = .byte ∨ t = .char ∨ t = .short) ∧ ∃ z, w = .int z) ∨ (i = .lreturn ∧ t = .long ∧ ∃ z, w = .long z) ∨ (i = .dreturn ∧ t = .double ∧ ∃ z, w = .double z) ∨ (i = .freturn ∧ t = .float ∧ ∃ z, w = .float z) ∨ (i = .areturn ∧ t.isReference = true ∧ w.isRef = true))
    (hd : decode c.code pc = .ok (i, 1)) (hlocks : meth.locks = false) {Q : Option Value → Heap → List Loc → Prop} {k n : Nat} (hQ : Q (some w) T.heap locs) (hk : cells ≤ k) (hs : slots ≤ n) : own_G p.tables e below s Q k n (T.setTop (mkF m pc Ls (w :: rest))) := by
  obtain ⟨fs, hr, hrun, hended, hW, hsame⟩ := X.leave (v := some w) (fun h => by rw [hret] at h; cases h) hlocks
  exact ⟨_, _, retOut X hx hret hn hi hd hr, hrun, hended, _, _, rfl, hQ, ⟨_, rfl⟩, hW, hsame.mono hk hs⟩
theorem own_retV (X : Stand p l e R s m args below meth c T locs cells slots) (hx : p.tables.exec = Jvm.exec) {pc : Nat} {Ls : Array Slot} (hret : meth.sig.returnType = none)
    (hd : decode c.code pc = .ok (.return_, 1)) (hlocks : meth.locks = false) {Q : Option Value → Heap → List Loc → Prop} {k n : Nat} (hQ : Q none T.heap locs) (hk : cells ≤ k) (hs : slots ≤ n) : own_G p.tables e below s Q k n (T.setTop (mkF m pc Ls [])) := by
  obtain ⟨fs, hr, hrun, hended, hW, hsame⟩ := X.leave (v := none) (fun _ => rfl) hlocks
  exact ⟨_, _, X.returnOut hx hret hd hr, hrun, hended, _, _, rfl, hQ, ⟨_, rfl⟩, hW, hsame.mono hk hs⟩
def own_Met (l : Launch) (Z : State) (y : MethodName) (bytes : ByteArray) (maxL : Nat) (ret : Option FieldType) (ws : List Jvm.Cond) (rm : Room) (as' : Array Value) (h0 : Heap) (Q : Option Value → Heap → List Loc → Prop) : Prop :=
  MetFree l y (head1 (Jvm.Cond.code y bytes maxL ret :: ws) rm) (fun a U => a = as' ∧ Z.Warmed39 U.vm ∧ U.heap = h0) (fun _ _ _ _ _ => True) (fun _ U o U' => ∃ v L, o = .returned v ∧ Q v U'.heap L ∧ FrameEnd U o U' L rm.cells rm.slots)
theorem own_body {l : Launch} {Z : State} {y : MethodName} {bytes : ByteArray} {maxL : Nat} {ret : Option FieldType} {ws : List Jvm.Cond} {rm : Room} {as' : Array Value} {h0 : Heap} {Q : Option Value → Heap → List Loc → Prop} (hp : plainFor y = true)
    (H : ∀ (p : Program) (e : Env) (s : State) (m : MethodId) (below : List Frame) (meth : Method) (c : Code) (s₁ : State), p.tables.exec = Jvm.exec → c.code = bytes → c.maxLocals = maxL → s.vm.findClass y.cls = some m.cls → meth.name = y.name → meth.locks = false → meth.sig.returnType = ret → Z.Warmed39 s.vm → Stand p l e rm s m as' below meth c s₁ [] 0 0 → s₁.heap = h0 →
      own_G p.tables e below s Q rm.cells rm.slots (s₁.setTop (entryFrame m as' maxL))) : own_Met l Z y bytes maxL ret ws rm as' h0 Q := by
  refine MetFree.of_bodySF hp hisR ?_
  intro p e s m args below meth c s₁ Bd hml0 hP hK
  obtain ⟨rfl, hZ, hh⟩ := hP
  exact H p e s m below meth c s₁ Bd.exec Bd.bytes hml0 (findClass_of_methodNamed Bd.named) (name_of_methodNamed Bd.named Bd.method).1 (BodyLoose.notSynchronized Bd) Bd.returns hZ (Stand.of_body Bd) (by rw [← hh, Bd.state]; rfl)
theorem own_back {Z : State} {a0 : Array Value} {h : Heap} {y : MethodName} {bytes : ByteArray} {maxL : Nat} {ret : Option FieldType} {rm : Room} {len W : Nat} {as' : Array Value} {Q : Option Value → Heap → List Loc → Prop} (hM : own_Met l Z y bytes maxL ret [] rm as' h Q)
    (hZ : Z.Warmed39 s.vm) (wc : (Jvm.Cond.code y bytes maxL ret).before a0 Z = true) (wz : (Jvm.Cond.initialized y.cls).before a0 Z = true) (hf : rm.frames + 1 ≤ R.frames) (hl : W + (maxL + 11) + rm.locals ≤ R.locals) :
    Back l R p e below s args y len W (fun A a => a = as' ∧ A.U.heap = h ∧ A.cells + rm.cells ≤ R.cells ∧ A.slots + rm.slots ≤ R.slots) (fun A _ v B => ∃ L, Q v B.U.heap L ∧ B.locs = A.locs ++ L ∧ B.cells = A.cells + rm.cells ∧ B.slots = A.slots + rm.slots) :=
  backOf (Q := Q) hM hZ wc wz hf hl
theorem own_xt {h0 h h' : Heap} (E : Ext h0 h) (F : Ext h h') : Ext h0 h' := ⟨Nat.le_trans E.1 F.1, fun a c q => F.2 a c (E.2 a c q)⟩
theorem own_xr (h : Heap) : Ext h h := ⟨Nat.le_refl _, fun _ _ q => q⟩
theorem own_xw {h0 h h' : Heap} {a : Addr} {sl : Nat} {v : Value} (E : Ext h0 h) (W : Wr h h' a sl v) (q : h0.size ≤ a) : Ext h0 h' := by
  have K := (Keep.of_wr W)
  exact ⟨Nat.le_trans E.1 K.1, fun x c r => K.2.1 x c (E.2 x c r) fun z => by
    cases List.mem_singleton.mp z
    exact absurd (Array.getElem?_eq_some_iff.mp r).1 (Nat.not_lt.mpr q)⟩
theorem own_fI {Z : State} {args : Array Value} {t : Term} {F fn fd : String} {a : Addr} {k : Int32} (ev : t.eval args Z none [] Z = some (.ref a)) (h : (Cond.eq (Term.field t F fn fd) (Term.int k)).value args Z none Z [] = some true) : Fld Z Z.heap a F fn fd (.int k) := by
  obtain ⟨x, y, h1, h2, h3, h4⟩ := cmp_v (Or.inl h)
  rw [fld_at ev] at h1
  cases (Term.int_eval k).symm.trans h2
  obtain ⟨z, rfl⟩ := h4
  have e1 : (Term.field t F fn fd).eval args Z none [] Z = some (.int z) := (fld_at ev).trans h1
  simp only [Cond.value, e1, Term.int_eval] at h
  have hz : z = k := by simpa using h
  subst hz
  exact Fld.start h1
theorem own_fJ {Z : State} {args : Array Value} {t : Term} {F fn fd : String} {a : Addr} {k : Int64} (ev : t.eval args Z none [] Z = some (.ref a)) (h : (Cond.eq (Term.field t F fn fd) (Term.long k)).value args Z none Z [] = some true) : Fld Z Z.heap a F fn fd (.long k) := by
  obtain ⟨x, y, h1, h2, h3, h4⟩ := cmp_v (Or.inl h)
  rw [fld_at ev] at h1
  cases (long_at k).symm.trans h2
  obtain ⟨z, rfl⟩ := h4
  have e1 : (Term.field t F fn fd).eval args Z none [] Z = some (.long z) := (fld_at ev).trans h1
  have hz := gotT (eq_L e1 (long_at k)) h
  subst hz
  exact Fld.start h1
theorem own_len {Z : State} {args : Array Value} {t : Term} {a : Addr} {cl : Cell} {ty : FieldType} {k : Int32} (ev : t.eval args Z none [] Z = some (.ref a)) (A : Arr Z Z.heap a cl ty) (h : (Cond.eq (Term.length t) (Term.int k)).value args Z none Z [] = some true) : cl.slots.size < 2 ^ 31 ∧ cl.slots.size.toInt32 = k := by
  have ha := Arr.fin (Vm.Alike.refl _) A
  obtain ⟨x, y, h1, h2, h3, h4⟩ := cmp_v (Or.inl h)
  by_cases hl : cl.slots.size < 2 ^ 31
  · have e1 := len_f (o := none) (idx := []) (first := Z) (args := args) ev ha hl
    simp only [Cond.value, e1, Term.int_eval] at h
    exact ⟨hl, by simpa using h⟩
  · simp [Term.eval, ev, ha, hl] at h1
theorem own_elV {Z : State} {args : Array Value} {t u : Term} {a : Addr} {cl : Cell} {k : Int32} {v : Value} {i : Nat} (ev : t.eval args Z none [] Z = some (.ref a)) (hc : Z.heap[a]? = some cl) (hu : u.eval args Z none [] Z = some v) (h : (Cond.eq (Term.elem t (Term.int k)) u).value args Z none Z [] = some true) (hk : k.toNatClampNeg = i) : cl.slots[i]? = some v := by
  obtain ⟨x, y, h1, h2, h3, h4⟩ := cmp_v (Or.inl h)
  cases hu.symm.trans h2
  have q := (elem_in h1 ev (Term.int_eval k) hc).2
  rw [hk] at q
  rw [q]
  simp only [Cond.value, h1, hu] at h
  cases x <;> cases v <;> simp_all [Kin, Value.isRef]
theorem own_ne {Z : State} {h : Heap} {a b : Addr} {C n d : String} {k j : Int32} (F : Fld Z h a C n d (.int k)) (G : Fld Z h b C n d (.int j)) (q : k ≠ j) : a ≠ b := Fld.ne F G (fun e => q (Value.int.inj e))
theorem own_rem {x n : Int32} (h0 : 0 ≤ x.toInt) (h1 : 0 < n.toInt) : 0 ≤ (x % n).toInt ∧ (x % n).toInt < n.toInt := by
  have := (c_iremV x n).1 h0 h1; exact ⟨this.1, this.2.1⟩
theorem own_msk (x : Int32) : 0 ≤ (x &&& (2147483647 : Int32)).toInt := (c_and x 2147483647 (by decide)).1
end OwnKit
def own_W (Z : State) (A : Nat → Addr) : Prop := Sta Z Z.heap "com/example/kilnbyte/kilnbyte/tree/Operator" "MULTIPLY" "Lcom/example/kilnbyte/kilnbyte/tree/Operator;" (.ref (A 0)) ∧ Exa Z Z.heap (A 0) "com/example/kilnbyte/kilnbyte/tree/Operator" ∧ Sta Z Z.heap "com/example/kilnbyte/kilnbyte/tree/Operator" "DIVIDE" "Lcom/example/kilnbyte/kilnbyte/tree/Operator;" (.ref (A 1)) ∧ Exa Z Z.heap (A 1) "com/example/kilnbyte/kilnbyte/tree/Operator" ∧ Sta Z Z.heap "com/example/kilnbyte/kilnbyte/tree/Operator" "REMAINDER" "Lcom/example/kilnbyte/kilnbyte/tree/Operator;" (.ref (A 2)) ∧ Exa Z Z.heap (A 2) "com/example/kilnbyte/kilnbyte/tree/Operator" ∧ Sta Z Z.heap "com/example/kilnbyte/kilnbyte/tree/Operator" "ADD" "Lcom/example/kilnbyte/kilnbyte/tree/Operator;" (.ref (A 3)) ∧ Exa Z Z.heap (A 3) "com/example/kilnbyte/kilnbyte/tree/Operator" ∧ Sta Z Z.heap "com/example/kilnbyte/kilnbyte/tree/Operator" "SUBTRACT" "Lcom/example/kilnbyte/kilnbyte/tree/Operator;" (.ref (A 4)) ∧ Exa Z Z.heap (A 4) "com/example/kilnbyte/kilnbyte/tree/Operator" ∧ Sta Z Z.heap "com/example/kilnbyte/kilnbyte/tree/Operator" "SHIFT_LEFT" "Lcom/example/kilnbyte/kilnbyte/tree/Operator;" (.ref (A 5)) ∧ Exa Z Z.heap (A 5) "com/example/kilnbyte/kilnbyte/tree/Operator" ∧ Sta Z Z.heap "com/example/kilnbyte/kilnbyte/tree/Operator" "SHIFT_RIGHT" "Lcom/example/kilnbyte/kilnbyte/tree/Operator;" (.ref (A 6)) ∧ Exa Z Z.heap (A 6) "com/example/kilnbyte/kilnbyte/tree/Operator" ∧ Sta Z Z.heap "com/example/kilnbyte/kilnbyte/tree/Operator" "UNSIGNED_SHIFT_RIGHT" "Lcom/example/kilnbyte/kilnbyte/tree/Operator;" (.ref (A 7)) ∧ Exa Z Z.heap (A 7) "com/example/kilnbyte/kilnbyte/tree/Operator" ∧ Sta Z Z.heap "com/example/kilnbyte/kilnbyte/tree/Operator" "LESS" "Lcom/example/kilnbyte/kilnbyte/tree/Operator;" (.ref (A 8)) ∧ Exa Z Z.heap (A 8) "com/example/kilnbyte/kilnbyte/tree/Operator" ∧ Sta Z Z.heap "com/example/kilnbyte/kilnbyte/tree/Operator" "GREATER" "Lcom/example/kilnbyte/kilnbyte/tree/Operator;" (.ref (A 9)) ∧ Exa Z Z.heap (A 9) "com/example/kilnbyte/kilnbyte/tree/Operator" ∧ Sta Z Z.heap "com/example/kilnbyte/kilnbyte/tree/Operator" "LESS_EQUAL" "Lcom/example/kilnbyte/kilnbyte/tree/Operator;" (.ref (A 10)) ∧ Exa Z Z.heap (A 10) "com/example/kilnbyte/kilnbyte/tree/Operator" ∧ Sta Z Z.heap "com/example/kilnbyte/kilnbyte/tree/Operator" "GREATER_EQUAL" "Lcom/example/kilnbyte/kilnbyte/tree/Operator;" (.ref (A 11)) ∧ Exa Z Z.heap (A 11) "com/example/kilnbyte/kilnbyte/tree/Operator" ∧ Sta Z Z.heap "com/example/kilnbyte/kilnbyte/tree/Operator" "EQUAL" "Lcom/example/kilnbyte/kilnbyte/tree/Operator;" (.ref (A 12)) ∧ Exa Z Z.heap (A 12) "com/example/kilnbyte/kilnbyte/tree/Operator" ∧ Sta Z Z.heap "com/example/kilnbyte/kilnbyte/tree/Operator" "NOT_EQUAL" "Lcom/example/kilnbyte/kilnbyte/tree/Operator;" (.ref (A 13)) ∧ Exa Z Z.heap (A 13) "com/example/kilnbyte/kilnbyte/tree/Operator" ∧ Sta Z Z.heap "com/example/kilnbyte/kilnbyte/tree/Operator" "AND" "Lcom/example/kilnbyte/kilnbyte/tree/Operator;" (.ref (A 14)) ∧ Exa Z Z.heap (A 14) "com/example/kilnbyte/kilnbyte/tree/Operator" ∧ Sta Z Z.heap "com/example/kilnbyte/kilnbyte/tree/Operator" "XOR" "Lcom/example/kilnbyte/kilnbyte/tree/Operator;" (.ref (A 15)) ∧ Exa Z Z.heap (A 15) "com/example/kilnbyte/kilnbyte/tree/Operator" ∧ Sta Z Z.heap "com/example/kilnbyte/kilnbyte/tree/Operator" "OR" "Lcom/example/kilnbyte/kilnbyte/tree/Operator;" (.ref (A 16)) ∧ Exa Z Z.heap (A 16) "com/example/kilnbyte/kilnbyte/tree/Operator" ∧ Sta Z Z.heap "com/example/kilnbyte/kilnbyte/tree/Operator" "CONDITIONAL_AND" "Lcom/example/kilnbyte/kilnbyte/tree/Operator;" (.ref (A 17)) ∧ Exa Z Z.heap (A 17) "com/example/kilnbyte/kilnbyte/tree/Operator" ∧ Sta Z Z.heap "com/example/kilnbyte/kilnbyte/tree/Operator" "CONDITIONAL_OR" "Lcom/example/kilnbyte/kilnbyte/tree/Operator;" (.ref (A 18)) ∧ Exa Z Z.heap (A 18) "com/example/kilnbyte/kilnbyte/tree/Operator" ∧ Sta Z Z.heap "com/example/kilnbyte/kilnbyte/tree/Operator" "PLUS" "Lcom/example/kilnbyte/kilnbyte/tree/Operator;" (.ref (A 19)) ∧ Exa Z Z.heap (A 19) "com/example/kilnbyte/kilnbyte/tree/Operator" ∧ Sta Z Z.heap "com/example/kilnbyte/kilnbyte/tree/Operator" "MINUS" "Lcom/example/kilnbyte/kilnbyte/tree/Operator;" (.ref (A 20)) ∧ Exa Z Z.heap (A 20) "com/example/kilnbyte/kilnbyte/tree/Operator" ∧ Sta Z Z.heap "com/example/kilnbyte/kilnbyte/tree/Operator" "COMPLEMENT" "Lcom/example/kilnbyte/kilnbyte/tree/Operator;" (.ref (A 21)) ∧ Exa Z Z.heap (A 21) "com/example/kilnbyte/kilnbyte/tree/Operator" ∧ Sta Z Z.heap "com/example/kilnbyte/kilnbyte/tree/Operator" "NOT" "Lcom/example/kilnbyte/kilnbyte/tree/Operator;" (.ref (A 22)) ∧ Exa Z Z.heap (A 22) "com/example/kilnbyte/kilnbyte/tree/Operator" ∧ Sta Z Z.heap "com/example/kilnbyte/kilnbyte/tree/Operator" "PRE_INCREMENT" "Lcom/example/kilnbyte/kilnbyte/tree/Operator;" (.ref (A 23)) ∧ Exa Z Z.heap (A 23) "com/example/kilnbyte/kilnbyte/tree/Operator" ∧ Sta Z Z.heap "com/example/kilnbyte/kilnbyte/tree/Operator" "PRE_DECREMENT" "Lcom/example/kilnbyte/kilnbyte/tree/Operator;" (.ref (A 24)) ∧ Exa Z Z.heap (A 24) "com/example/kilnbyte/kilnbyte/tree/Operator" ∧ Sta Z Z.heap "com/example/kilnbyte/kilnbyte/tree/Operator" "POST_INCREMENT" "Lcom/example/kilnbyte/kilnbyte/tree/Operator;" (.ref (A 25)) ∧ Exa Z Z.heap (A 25) "com/example/kilnbyte/kilnbyte/tree/Operator" ∧ Sta Z Z.heap "com/example/kilnbyte/kilnbyte/tree/Operator" "POST_DECREMENT" "Lcom/example/kilnbyte/kilnbyte/tree/Operator;" (.ref (A 26)) ∧ Exa Z Z.heap (A 26) "com/example/kilnbyte/kilnbyte/tree/Operator" ∧ Fld Z Z.heap (A 0) "com/example/kilnbyte/kilnbyte/tree/Operator" "precedence" "I" (.int (10 : Int32)) ∧ Fld Z Z.heap (A 0) "java/lang/Enum" "ordinal" "I" (.int (0 : Int32)) ∧ Fld Z Z.heap (A 14) "java/lang/Enum" "ordinal" "I" (.int (14 : Int32)) ∧ Fld Z Z.heap (A 15) "java/lang/Enum" "ordinal" "I" (.int (15 : Int32)) ∧ Fld Z Z.heap (A 16) "java/lang/Enum" "ordinal" "I" (.int (16 : Int32)) ∧ Fld Z Z.heap (A 3) "com/example/kilnbyte/kilnbyte/tree/Operator" "precedence" "I" (.int (9 : Int32)) ∧ Fld Z Z.heap (A 3) "java/lang/Enum" "ordinal" "I" (.int (3 : Int32)) ∧ Fld Z Z.heap (A 2) "com/example/kilnbyte/kilnbyte/tree/Operator" "precedence" "I" (.int (10 : Int32)) ∧ Fld Z Z.heap (A 2) "java/lang/Enum" "ordinal" "I" (.int (2 : Int32)) ∧ Fld Z Z.heap (A 10) "com/example/kilnbyte/kilnbyte/tree/Operator" "precedence" "I" (.int (7 : Int32)) ∧ Fld Z Z.heap (A 10) "java/lang/Enum" "ordinal" "I" (.int (10 : Int32)) ∧ Fld Z Z.heap (A 21) "com/example/kilnbyte/kilnbyte/tree/Operator" "precedence" "I" (.int (0 : Int32)) ∧ Fld Z Z.heap (A 21) "java/lang/Enum" "ordinal" "I" (.int (21 : Int32)) ∧ Fld Z Z.heap (A 20) "com/example/kilnbyte/kilnbyte/tree/Operator" "precedence" "I" (.int (0 : Int32)) ∧ Fld Z Z.heap (A 20) "java/lang/Enum" "ordinal" "I" (.int (20 : Int32)) ∧ Fld Z Z.heap (A 7) "com/example/kilnbyte/kilnbyte/tree/Operator" "precedence" "I" (.int (8 : Int32)) ∧ Fld Z Z.heap (A 7) "java/lang/Enum" "ordinal" "I" (.int (7 : Int32)) ∧ Fld Z Z.heap (A 11) "com/example/kilnbyte/kilnbyte/tree/Operator" "precedence" "I" (.int (7 : Int32)) ∧ Fld Z Z.heap (A 11) "java/lang/Enum" "ordinal" "I" (.int (11 : Int32)) ∧ Fld Z Z.heap (A 22) "com/example/kilnbyte/kilnbyte/tree/Operator" "precedence" "I" (.int (0 : Int32)) ∧ Fld Z Z.heap (A 22) "java/lang/Enum" "ordinal" "I" (.int (22 : Int32)) ∧ Fld Z Z.heap (A 8) "com/example/kilnbyte/kilnbyte/tree/Operator" "precedence" "I" (.int (7 : Int32)) ∧ Fld Z Z.heap (A 8) "java/lang/Enum" "ordinal" "I" (.int (8 : Int32)) ∧ Fld Z Z.heap (A 1) "com/example/kilnbyte/kilnbyte/tree/Operator" "precedence" "I" (.int (10 : Int32)) ∧ Fld Z Z.heap (A 1) "java/lang/Enum" "ordinal" "I" (.int (1 : Int32)) ∧ Fld Z Z.heap (A 25) "com/example/kilnbyte/kilnbyte/tree/Operator" "precedence" "I" (.int (0 : Int32)) ∧ Fld Z Z.heap (A 25) "java/lang/Enum" "ordinal" "I" (.int (25 : Int32)) ∧ Fld Z Z.heap (A 15) "com/example/kilnbyte/kilnbyte/tree/Operator" "precedence" "I" (.int (4 : Int32)) ∧ Fld Z Z.heap (A 4) "com/example/kilnbyte/kilnbyte/tree/Operator" "precedence" "I" (.int (9 : Int32)) ∧ Fld Z Z.heap (A 4) "java/lang/Enum" "ordinal" "I" (.int (4 : Int32)) ∧ Fld Z Z.heap (A 16) "com/example/kilnbyte/kilnbyte/tree/Operator" "precedence" "I" (.int (3 : Int32)) ∧ Fld Z Z.heap (A 6) "com/example/kilnbyte/kilnbyte/tree/Operator" "precedence" "I" (.int (8 : Int32)) ∧ Fld Z Z.heap (A 6) "java/lang/Enum" "ordinal" "I" (.int (6 : Int32)) ∧ Fld Z Z.heap (A 19) "com/example/kilnbyte/kilnbyte/tree/Operator" "precedence" "I" (.int (0 : Int32)) ∧ Fld Z Z.heap (A 19) "java/lang/Enum" "ordinal" "I" (.int (19 : Int32)) ∧ Fld Z Z.heap (A 13) "com/example/kilnbyte/kilnbyte/tree/Operator" "precedence" "I" (.int (6 : Int32)) ∧ Fld Z Z.heap (A 13) "java/lang/Enum" "ordinal" "I" (.int (13 : Int32)) ∧ Fld Z Z.heap (A 14) "com/example/kilnbyte/kilnbyte/tree/Operator" "precedence" "I" (.int (5 : Int32)) ∧ Fld Z Z.heap (A 17) "com/example/kilnbyte/kilnbyte/tree/Operator" "precedence" "I" (.int (2 : Int32)) ∧ Fld Z Z.heap (A 17) "java/lang/Enum" "ordinal" "I" (.int (17 : Int32)) ∧ Fld Z Z.heap (A 26) "com/example/kilnbyte/kilnbyte/tree/Operator" "precedence" "I" (.int (0 : Int32)) ∧ Fld Z Z.heap (A 26) "java/lang/Enum" "ordinal" "I" (.int (26 : Int32)) ∧ Fld Z Z.heap (A 12) "com/example/kilnbyte/kilnbyte/tree/Operator" "precedence" "I" (.int (6 : Int32)) ∧ Fld Z Z.heap (A 12) "java/lang/Enum" "ordinal" "I" (.int (12 : Int32)) ∧ Fld Z Z.heap (A 5) "com/example/kilnbyte/kilnbyte/tree/Operator" "precedence" "I" (.int (8 : Int32)) ∧ Fld Z Z.heap (A 5) "java/lang/Enum" "ordinal" "I" (.int (5 : Int32)) ∧ Fld Z Z.heap (A 18) "com/example/kilnbyte/kilnbyte/tree/Operator" "precedence" "I" (.int (1 : Int32)) ∧ Fld Z Z.heap (A 18) "java/lang/Enum" "ordinal" "I" (.int (18 : Int32)) ∧ Fld Z Z.heap (A 9) "com/example/kilnbyte/kilnbyte/tree/Operator" "precedence" "I" (.int (7 : Int32)) ∧ Fld Z Z.heap (A 9) "java/lang/Enum" "ordinal" "I" (.int (9 : Int32)) ∧ Fld Z Z.heap (A 24) "com/example/kilnbyte/kilnbyte/tree/Operator" "precedence" "I" (.int (0 : Int32)) ∧ Fld Z Z.heap (A 24) "java/lang/Enum" "ordinal" "I" (.int (24 : Int32)) ∧ Fld Z Z.heap (A 23) "com/example/kilnbyte/kilnbyte/tree/Operator" "precedence" "I" (.int (0 : Int32)) ∧ Fld Z Z.heap (A 23) "java/lang/Enum" "ordinal" "I" (.int (23 : Int32))
theorem own_w_S_MULTIPLY {Z : State} {A : Nat → Addr} (hW : own_W Z A) : Sta Z Z.heap "com/example/kilnbyte/kilnbyte/tree/Operator" "MULTIPLY" "Lcom/example/kilnbyte/kilnbyte/tree/Operator;" (.ref (A 0)) := by unfold own_W at hW; exact hW.1
theorem own_w_E_MULTIPLY {Z : State} {A : Nat → Addr} (hW : own_W Z A) : Exa Z Z.heap (A 0) "com/example/kilnbyte/kilnbyte/tree/Operator" := by unfold own_W at hW; exact hW.2.1
theorem own_w_S_DIVIDE {Z : State} {A : Nat → Addr} (hW : own_W Z A) : Sta Z Z.heap "com/example/kilnbyte/kilnbyte/tree/Operator" "DIVIDE" "Lcom/example/kilnbyte/kilnbyte/tree/Operator;" (.ref (A 1)) := by unfold own_W at hW; exact hW.2.2.1
theorem own_w_E_DIVIDE {Z : State} {A : Nat → Addr} (hW : own_W Z A) : Exa Z Z.heap (A 1) "com/example/kilnbyte/kilnbyte/tree/Operator" := by unfold own_W at hW; exact hW.2.2.2.1
theorem own_w_S_REMAINDER {Z : State} {A : Nat → Addr} (hW : own_W Z A) : Sta Z Z.heap "com/example/kilnbyte/kilnbyte/tree/Operator" "REMAINDER" "Lcom/example/kilnbyte/kilnbyte/tree/Operator;" (.ref (A 2)) := by unfold own_W at hW; exact hW.2.2.2.2.1
theorem own_w_E_REMAINDER {Z : State} {A : Nat → Addr} (hW : own_W Z A) : Exa Z Z.heap (A 2) "com/example/kilnbyte/kilnbyte/tree/Operator" := by unfold own_W at hW; exact hW.2.2.2.2.2.1
theorem own_w_S_ADD {Z : State} {A : Nat → Addr} (hW : own_W Z A) : Sta Z Z.heap "com/example/kilnbyte/kilnbyte/tree/Operator" "ADD" "Lcom/example/kilnbyte/kilnbyte/tree/Operator;" (.ref (A 3)) := by unfold own_W at hW; exact hW.2.2.2.2.2.2.1
theorem own_w_E_ADD {Z : State} {A : Nat → Addr} (hW : own_W Z A) : Exa Z Z.heap (A 3) "com/example/kilnbyte/kilnbyte/tree/Operator" := by unfold own_W at hW; exact hW.2.2.2.2.2.2.2.1
theorem own_w_S_SUBTRACT {Z : State} {A : Nat → Addr} (hW : own_W Z A) : Sta Z Z.heap "com/example/kilnbyte/kilnbyte/tree/Operator" "SUBTRACT" "Lcom/example/kilnbyte/kilnbyte/tree/Operator;" (.ref (A 4)) := by unfold own_W at hW; exact hW.2.2.2.2.2.2.2.2.1
theorem own_w_E_SUBTRACT {Z : State} {A : Nat → Addr} (hW : own_W Z A) : Exa Z Z.heap (A 4) "com/example/kilnbyte/kilnbyte/tree/Operator" := by unfold own_W at hW; exact hW.2.2.2.2.2.2.2.2.2.1
theorem own_w_S_SHIFT_LEFT {Z : State} {A : Nat → Addr} (hW : own_W Z A) : Sta Z Z.heap "com/example/kilnbyte/kilnbyte/tree/Operator" "SHIFT_LEFT" "Lcom/example/kilnbyte/kilnbyte/tree/Operator;" (.ref (A 5)) := by unfold own_W at hW; exact hW.2.2.2.2.2.2.2.2.2.2.1
theorem own_w_E_SHIFT_LEFT {Z : State} {A : Nat → Addr} (hW : own_W Z A) : Exa Z Z.heap (A 5) "com/example/kilnbyte/kilnbyte/tree/Operator" := by unfold own_W at hW; exact hW.2.2.2.2.2.2.2.2.2.2.2.1
theorem own_w_S_SHIFT_RIGHT {Z : State} {A : Nat → Addr} (hW : own_W Z A) : Sta Z Z.heap "com/example/kilnbyte/kilnbyte/tree/Operator" "SHIFT_RIGHT" "Lcom/example/kilnbyte/kilnbyte/tree/Operator;" (.ref (A 6)) := by unfold own_W at hW; exact hW.2.2.2.2.2.2.2.2.2.2.2.2.1
theorem own_w_E_SHIFT_RIGHT {Z : State} {A : Nat → Addr} (hW : own_W Z A) : Exa Z Z.heap (A 6) "com/example/kilnbyte/kilnbyte/tree/Operator" := by unfold own_W at hW; exact hW.2.2.2.2.2.2.2.2.2.2.2.2.2.1
theorem own_w_S_UNSIGNED_SHIFT_RIGHT {Z : State} {A : Nat → Addr} (hW : own_W Z A) : Sta Z Z.heap "com/example/kilnbyte/kilnbyte/tree/Operator" "UNSIGNED_SHIFT_RIGHT" "Lcom/example/kilnbyte/kilnbyte/tree/Operator;" (.ref (A 7)) := by unfold own_W at hW; exact hW.2.2.2.2.2.2.2.2.2.2.2.2.2.2.1
theorem own_w_E_UNSIGNED_SHIFT_RIGHT {Z : State} {A : Nat → Addr} (hW : own_W Z A) : Exa Z Z.heap (A 7) "com/example/kilnbyte/kilnbyte/tree/Operator" := by unfold own_W at hW; exact hW.2.2.2.2.2.2.2.2.2.2.2.2.2.2.2.1
theorem own_w_S_LESS {Z : State} {A : Nat → Addr} (hW : own_W Z A) : Sta Z Z.heap "com/example/kilnbyte/kilnbyte/tree/Operator" "LESS" "Lcom/example/kilnbyte/kilnbyte/tree/Operator;" (.ref (A 8)) := by unfold own_W at hW; exact hW.2.2.2.2.2.2.2.2.2.2.2.2.2.2.2.2.1
theorem own_w_E_LESS {Z : State} {A : Nat → Addr} (hW : own_W Z A) : Exa Z Z.heap (A 8) "com/example/kilnbyte/kilnbyte/tree/Operator" := by unfold own_W at hW; exact hW.2.2.2.2.2.2.2.2.2.2.2.2.2.2.2.2.2.1
theorem own_w_S_GREATER {Z : State} {A : Nat → Addr} (hW : own_W Z A) : Sta Z Z.heap "com/example/kilnbyte/kilnbyte/tree/Operator" "GREATER" "Lcom/example/kilnbyte/kilnbyte/tree/Operator;" (.ref (A 9)) := by unfold own_W at hW; exact hW.2.2.2.2.2.2.2.2.2.2.2.2.2.2.2.2.2.2.1
theorem own_w_E_GREATER {Z : State} {A : Nat → Addr} (hW : own_W Z A) : Exa Z Z.heap (A 9) "com/example/kilnbyte/kilnbyte/tree/Operator" := by unfold own_W at hW; exact hW.2.2.2.2.2.2.2.2.2.2.2.2.2.2.2.2.2.2.2.1
theorem own_w_S_LESS_EQUAL {Z : State} {A : Nat → Addr} (hW : own_W Z A) : Sta Z Z.heap "com/example/kilnbyte/kilnbyte/tree/Operator" "LESS_EQUAL" "Lcom/example/kilnbyte/kilnbyte/tree/Operator;" (.ref (A 10)) := by unfold own_W at hW; exact hW.2.2.2.2.2.2.2.2.2.2.2.2.2.2.2.2.2.2.2.2.1
theorem own_w_E_LESS_EQUAL {Z : State} {A : Nat → Addr} (hW : own_W Z A) : Exa Z Z.heap (A 10) "com/example/kilnbyte/kilnbyte/tree/Operator" := by unfold own_W at hW; exact hW.2.2.2.2.2.2.2.2.2.2.2.2.2.2.2.2.2.2.2.2.2.1
theorem own_w_S_GREATER_EQUAL {Z : State} {A : Nat → Addr} (hW : own_W Z A) : Sta Z Z.heap "com/example/kilnbyte/kilnbyte/tree/Operator" "GREATER_EQUAL" "Lcom/example/kilnbyte/kilnbyte/tree/Operator;" (.ref (A 11)) := by unfold own_W at hW; exact hW.2.2.2.2.2.2.2.2.2.2.2.2.2.2.2.2.2.2.2.2.2.2.1
theorem own_w_E_GREATER_EQUAL {Z : State} {A : Nat → Addr} (hW : own_W Z A) : Exa Z Z.heap (A 11) "com/example/kilnbyte/kilnbyte/tree/Operator" := by unfold own_W at hW; exact hW.2.2.2.2.2.2.2.2.2.2.2.2.2.2.2.2.2.2.2.2.2.2.2.1
theorem own_w_S_EQUAL {Z : State} {A : Nat → Addr} (hW : own_W Z A) : Sta Z Z.heap "com/example/kilnbyte/kilnbyte/tree/Operator" "EQUAL" "Lcom/example/kilnbyte/kilnbyte/tree/Operator;" (.ref (A 12)) := by unfold own_W at hW; exact hW.2.2.2.2.2.2.2.2.2.2.2.2.2.2.2.2.2.2.2.2.2.2.2.2.1
theorem own_w_E_EQUAL {Z : State} {A : Nat → Addr} (hW : own_W Z A) : Exa Z Z.heap (A 12) "com/example/kilnbyte/kilnbyte/tree/Operator" := by unfold own_W at hW; exact hW.2.2.2.2.2.2.2.2.2.2.2.2.2.2.2.2.2.2.2.2.2.2.2.2.2.1
theorem own_w_S_NOT_EQUAL {Z : State} {A : Nat → Addr} (hW : own_W Z A) : Sta Z Z.heap "com/example/kilnbyte/kilnbyte/tree/Operator" "NOT_EQUAL" "Lcom/example/kilnbyte/kilnbyte/tree/Operator;" (.ref (A 13)) := by unfold own_W at hW; exact hW.2.2.2.2.2.2.2.2.2.2.2.2.2.2.2.2.2.2.2.2.2.2.2.2.2.2.1
theorem own_w_E_NOT_EQUAL {Z : State} {A : Nat → Addr} (hW : own_W Z A) : Exa Z Z.heap (A 13) "com/example/kilnbyte/kilnbyte/tree/Operator" := by unfold own_W at hW; exact hW.2.2.2.2.2.2.2.2.2.2.2.2.2.2.2.2.2.2.2.2.2.2.2.2.2.2.2.1
theorem own_w_S_AND {Z : State} {A : Nat → Addr} (hW : own_W Z A) : Sta Z Z.heap "com/example/kilnbyte/kilnbyte/tree/Operator" "AND" "Lcom/example/kilnbyte/kilnbyte/tree/Operator;" (.ref (A 14)) := by unfold own_W at hW; exact hW.2.2.2.2.2.2.2.2.2.2.2.2.2.2.2.2.2.2.2.2.2.2.2.2.2.2.2.2.1
theorem own_w_E_AND {Z : State} {A : Nat → Addr} (hW : own_W Z A) : Exa Z Z.heap (A 14) "com/example/kilnbyte/kilnbyte/tree/Operator" := by unfold own_W at hW; exact hW.2.2.2.2.2.2.2.2.2.2.2.2.2.2.2.2.2.2.2.2.2.2.2.2.2.2.2.2.2.1
theorem own_w_S_XOR {Z : State} {A : Nat → Addr} (hW : own_W Z A) : Sta Z Z.heap "com/example/kilnbyte/kilnbyte/tree/Operator" "XOR" "Lcom/example/kilnbyte/kilnbyte/tree/Operator;" (.ref (A 15)) := by unfold own_W at hW; exact hW.2.2.2.2.2.2.2.2.2.2.2.2.2.2.2.2.2.2.2.2.2.2.2.2.2.2.2.2.2.2.1
theorem own_w_E_XOR {Z : State} {A : Nat → Addr} (hW : own_W Z A) : Exa Z Z.heap (A 15) "com/example/kilnbyte/kilnbyte/tree/Operator" := by unfold own_W at hW; exact hW.2.2.2.2.2.2.2.2.2.2.2.2.2.2.2.2.2.2.2.2.2.2.2.2.2.2.2.2.2.2.2.1
theorem own_w_S_OR {Z : State} {A : Nat → Addr} (hW : own_W Z A) : Sta Z Z.heap "com/example/kilnbyte/kilnbyte/tree/Operator" "OR" "Lcom/example/kilnbyte/kilnbyte/tree/Operator;" (.ref (A 16)) := by unfold own_W at hW; exact hW.2.2.2.2.2.2.2.2.2.2.2.2.2.2.2.2.2.2.2.2.2.2.2.2.2.2.2.2.2.2.2.2.1
theorem own_w_E_OR {Z : State} {A : Nat → Addr} (hW : own_W Z A) : Exa Z Z.heap (A 16) "com/example/kilnbyte/kilnbyte/tree/Operator" := by unfold own_W at hW; exact hW.2.2.2.2.2.2.2.2.2.2.2.2.2.2.2.2.2.2.2.2.2.2.2.2.2.2.2.2.2.2.2.2.2.1
theorem own_w_S_CONDITIONAL_AND {Z : State} {A : Nat → Addr} (hW : own_W Z A) : Sta Z Z.heap "com/example/kilnbyte/kilnbyte/tree/Operator" "CONDITIONAL_AND" "Lcom/example/kilnbyte/kilnbyte/tree/Operator;" (.ref (A 17)) := by unfold own_W at hW; exact hW.2.2.2.2.2.2.2.2.2.2.2.2.2.2.2.2.2.2.2.2.2.2.2.2.2.2.2.2.2.2.2.2.2.2.1
theorem own_w_E_CONDITIONAL_AND {Z : State} {A : Nat → Addr} (hW : own_W Z A) : Exa Z Z.heap (A 17) "com/example/kilnbyte/kilnbyte/tree/Operator" := by unfold own_W at hW; exact hW.2.2.2.2.2.2.2.2.2.2.2.2.2.2.2.2.2.2.2.2.2.2.2.2.2.2.2.2.2.2.2.2.2.2.2.1
theorem own_w_S_CONDITIONAL_OR {Z : State} {A : Nat → Addr} (hW : own_W Z A) : Sta Z Z.heap "com/example/kilnbyte/kilnbyte/tree/Operator" "CONDITIONAL_OR" "Lcom/example/kilnbyte/kilnbyte/tree/Operator;" (.ref (A 18)) := by unfold own_W at hW; exact hW.2.2.2.2.2.2.2.2.2.2.2.2.2.2.2.2.2.2.2.2.2.2.2.2.2.2.2.2.2.2.2.2.2.2.2.2.1
theorem own_w_E_CONDITIONAL_OR {Z : State} {A : Nat → Addr} (hW : own_W Z A) : Exa Z Z.heap (A 18) "com/example/kilnbyte/kilnbyte/tree/Operator" := by unfold own_W at hW; exact hW.2.2.2.2.2.2.2.2.2.2.2.2.2.2.2.2.2.2.2.2.2.2.2.2.2.2.2.2.2.2.2.2.2.2.2.2.2.1
theorem own_w_S_PLUS {Z : State} {A : Nat → Addr} (hW : own_W Z A) : Sta Z Z.heap "com/example/kilnbyte/kilnbyte/tree/Operator" "PLUS" "Lcom/example/kilnbyte/kilnbyte/tree/Operator;" (.ref (A 19)) := by unfold own_W at hW; exact hW.2.2.2.2.2.2.2.2.2.2.2.2.2.2.2.2.2.2.2.2.2.2.2.2.2.2.2.2.2.2.2.2.2.2.2.2.2.2.1
theorem own_w_E_PLUS {Z : State} {A : Nat → Addr} (hW : own_W Z A) : Exa Z Z.heap (A 19) "com/example/kilnbyte/kilnbyte/tree/Operator" := by unfold own_W at hW; exact hW.2.2.2.2.2.2.2.2.2.2.2.2.2.2.2.2.2.2.2.2.2.2.2.2.2.2.2.2.2.2.2.2.2.2.2.2.2.2.2.1
theorem own_w_S_MINUS {Z : State} {A : Nat → Addr} (hW : own_W Z A) : Sta Z Z.heap "com/example/kilnbyte/kilnbyte/tree/Operator" "MINUS" "Lcom/example/kilnbyte/kilnbyte/tree/Operator;" (.ref (A 20)) := by unfold own_W at hW; exact hW.2.2.2.2.2.2.2.2.2.2.2.2.2.2.2.2.2.2.2.2.2.2.2.2.2.2.2.2.2.2.2.2.2.2.2.2.2.2.2.2.1
theorem own_w_E_MINUS {Z : State} {A : Nat → Addr} (hW : own_W Z A) : Exa Z Z.heap (A 20) "com/example/kilnbyte/kilnbyte/tree/Operator" := by unfold own_W at hW; exact hW.2.2.2.2.2.2.2.2.2.2.2.2.2.2.2.2.2.2.2.2.2.2.2.2.2.2.2.2.2.2.2.2.2.2.2.2.2.2.2.2.2.1
theorem own_w_S_COMPLEMENT {Z : State} {A : Nat → Addr} (hW : own_W Z A) : Sta Z Z.heap "com/example/kilnbyte/kilnbyte/tree/Operator" "COMPLEMENT" "Lcom/example/kilnbyte/kilnbyte/tree/Operator;" (.ref (A 21)) := by unfold own_W at hW; exact hW.2.2.2.2.2.2.2.2.2.2.2.2.2.2.2.2.2.2.2.2.2.2.2.2.2.2.2.2.2.2.2.2.2.2.2.2.2.2.2.2.2.2.1
theorem own_w_E_COMPLEMENT {Z : State} {A : Nat → Addr} (hW : own_W Z A) : Exa Z Z.heap (A 21) "com/example/kilnbyte/kilnbyte/tree/Operator" := by unfold own_W at hW; exact hW.2.2.2.2.2.2.2.2.2.2.2.2.2.2.2.2.2.2.2.2.2.2.2.2.2.2.2.2.2.2.2.2.2.2.2.2.2.2.2.2.2.2.2.1
theorem own_w_S_NOT {Z : State} {A : Nat → Addr} (hW : own_W Z A) : Sta Z Z.heap "com/example/kilnbyte/kilnbyte/tree/Operator" "NOT" "Lcom/example/kilnbyte/kilnbyte/tree/Operator;" (.ref (A 22)) := by unfold own_W at hW; exact hW.2.2.2.2.2.2.2.2.2.2.2.2.2.2.2.2.2.2.2.2.2.2.2.2.2.2.2.2.2.2.2.2.2.2.2.2.2.2.2.2.2.2.2.2.1
theorem own_w_E_NOT {Z : State} {A : Nat → Addr} (hW : own_W Z A) : Exa Z Z.heap (A 22) "com/example/kilnbyte/kilnbyte/tree/Operator" := by unfold own_W at hW; exact hW.2.2.2.2.2.2.2.2.2.2.2.2.2.2.2.2.2.2.2.2.2.2.2.2.2.2.2.2.2.2.2.2.2.2.2.2.2.2.2.2.2.2.2.2.2.1
theorem own_w_S_PRE_INCREMENT {Z : State} {A : Nat → Addr} (hW : own_W Z A) : Sta Z Z.heap "com/example/kilnbyte/kilnbyte/tree/Operator" "PRE_INCREMENT" "Lcom/example/kilnbyte/kilnbyte/tree/Operator;" (.ref (A 23)) := by unfold own_W at hW; exact hW.2.2.2.2.2.2.2.2.2.2.2.2.2.2.2.2.2.2.2.2.2.2.2.2.2.2.2.2.2.2.2.2.2.2.2.2.2.2.2.2.2.2.2.2.2.2.1
theorem own_w_E_PRE_INCREMENT {Z : State} {A : Nat → Addr} (hW : own_W Z A) : Exa Z Z.heap (A 23) "com/example/kilnbyte/kilnbyte/tree/Operator" := by unfold own_W at hW; exact hW.2.2.2.2.2.2.2.2.2.2.2.2.2.2.2.2.2.2.2.2.2.2.2.2.2.2.2.2.2.2.2.2.2.2.2.2.2.2.2.2.2.2.2.2.2.2.2.1
theorem own_w_S_PRE_DECREMENT {Z : State} {A : Nat → Addr} (hW : own_W Z A) : Sta Z Z.heap "com/example/kilnbyte/kilnbyte/tree/Operator" "PRE_DECREMENT" "Lcom/example/kilnbyte/kilnbyte/tree/Operator;" (.ref (A 24)) := by unfold own_W at hW; exact hW.2.2.2.2.2.2.2.2.2.2.2.2.2.2.2.2.2.2.2.2.2.2.2.2.2.2.2.2.2.2.2.2.2.2.2.2.2.2.2.2.2.2.2.2.2.2.2.2.1
theorem own_w_E_PRE_DECREMENT {Z : State} {A : Nat → Addr} (hW : own_W Z A) : Exa Z Z.heap (A 24) "com/example/kilnbyte/kilnbyte/tree/Operator" := by unfold own_W at hW; exact hW.2.2.2.2.2.2.2.2.2.2.2.2.2.2.2.2.2.2.2.2.2.2.2.2.2.2.2.2.2.2.2.2.2.2.2.2.2.2.2.2.2.2.2.2.2.2.2.2.2.1
theorem own_w_S_POST_INCREMENT {Z : State} {A : Nat → Addr} (hW : own_W Z A) : Sta Z Z.heap "com/example/kilnbyte/kilnbyte/tree/Operator" "POST_INCREMENT" "Lcom/example/kilnbyte/kilnbyte/tree/Operator;" (.ref (A 25)) := by unfold own_W at hW; exact hW.2.2.2.2.2.2.2.2.2.2.2.2.2.2.2.2.2.2.2.2.2.2.2.2.2.2.2.2.2.2.2.2.2.2.2.2.2.2.2.2.2.2.2.2.2.2.2.2.2.2.1
theorem own_w_E_POST_INCREMENT {Z : State} {A : Nat → Addr} (hW : own_W Z A) : Exa Z Z.heap (A 25) "com/example/kilnbyte/kilnbyte/tree/Operator" := by unfold own_W at hW; exact hW.2.2.2.2.2.2.2.2.2.2.2.2.2.2.2.2.2.2.2.2.2.2.2.2.2.2.2.2.2.2.2.2.2.2.2.2.2.2.2.2.2.2.2.2.2.2.2.2.2.2.2.1
theorem own_w_S_POST_DECREMENT {Z : State} {A : Nat → Addr} (hW : own_W Z A) : Sta Z Z.heap "com/example/kilnbyte/kilnbyte/tree/Operator" "POST_DECREMENT" "Lcom/example/kilnbyte/kilnbyte/tree/Operator;" (.ref (A 26)) := by unfold own_W at hW; exact hW.2.2.2.2.2.2.2.2.2.2.2.2.2.2.2.2.2.2.2.2.2.2.2.2.2.2.2.2.2.2.2.2.2.2.2.2.2.2.2.2.2.2.2.2.2.2.2.2.2.2.2.2.1
theorem own_w_E_POST_DECREMENT {Z : State} {A : Nat → Addr} (hW : own_W Z A) : Exa Z Z.heap (A 26) "com/example/kilnbyte/kilnbyte/tree/Operator" := by unfold own_W at hW; exact hW.2.2.2.2.2.2.2.2.2.2.2.2.2.2.2.2.2.2.2.2.2.2.2.2.2.2.2.2.2.2.2.2.2.2.2.2.2.2.2.2.2.2.2.2.2.2.2.2.2.2.2.2.2.1
theorem own_w_F_MULTIPLY_precedence {Z : State} {A : Nat → Addr} (hW : own_W Z A) : Fld Z Z.heap (A 0) "com/example/kilnbyte/kilnbyte/tree/Operator" "precedence" "I" (.int (10 : Int32)) := by unfold own_W at hW; exact hW.2.2.2.2.2.2.2.2.2.2.2.2.2.2.2.2.2.2.2.2.2.2.2.2.2.2.2.2.2.2.2.2.2.2.2.2.2.2.2.2.2.2.2.2.2.2.2.2.2.2.2.2.2.2.1
theorem own_w_F_MULTIPLY_ordinal {Z : State} {A : Nat → Addr} (hW : own_W Z A) : Fld Z Z.heap (A 0) "java/lang/Enum" "ordinal" "I" (.int (0 : Int32)) := by unfold own_W at hW; exact hW.2.2.2.2.2.2.2.2.2.2.2.2.2.2.2.2.2.2.2.2.2.2.2.2.2.2.2.2.2.2.2.2.2.2.2.2.2.2.2.2.2.2.2.2.2.2.2.2.2.2.2.2.2.2.2.1
theorem own_w_F_AND_ordinal {Z : State} {A : Nat → Addr} (hW : own_W Z A) : Fld Z Z.heap (A 14) "java/lang/Enum" "ordinal" "I" (.int (14 : Int32)) := by unfold own_W at hW; exact hW.2.2.2.2.2.2.2.2.2.2.2.2.2.2.2.2.2.2.2.2.2.2.2.2.2.2.2.2.2.2.2.2.2.2.2.2.2.2.2.2.2.2.2.2.2.2.2.2.2.2.2.2.2.2.2.2.1
theorem own_w_F_XOR_ordinal {Z : State} {A : Nat → Addr} (hW : own_W Z A) : Fld Z Z.heap (A 15) "java/lang/Enum" "ordinal" "I" (.int (15 : Int32)) := by unfold own_W at hW; exact hW.2.2.2.2.2.2.2.2.2.2.2.2.2.2.2.2.2.2.2.2.2.2.2.2.2.2.2.2.2.2.2.2.2.2.2.2.2.2.2.2.2.2.2.2.2.2.2.2.2.2.2.2.2.2.2.2.2.1
theorem own_w_F_OR_ordinal {Z : State} {A : Nat → Addr} (hW : own_W Z A) : Fld Z Z.heap (A 16) "java/lang/Enum" "ordinal" "I" (.int (16 : Int32)) := by unfold own_W at hW; exact hW.2.2.2.2.2.2.2.2.2.2.2.2.2.2.2.2.2.2.2.2.2.2.2.2.2.2.2.2.2.2.2.2.2.2.2.2.2.2.2.2.2.2.2.2.2.2.2.2.2.2.2.2.2.2.2.2.2.2.1
theorem own_w_F_ADD_precedence {Z : State} {A : Nat → Addr} (hW : own_W Z A) : Fld Z Z.heap (A 3) "com/example/kilnbyte/kilnbyte/tree/Operator" "precedence" "I" (.int (9 : Int32)) := by unfold own_W at hW; exact hW.2.2.2.2.2.2.2.2.2.2.2.2.2.2.2.2.2.2.2.2.2.2.2.2.2.2.2.2.2.2.2.2.2.2.2.2.2.2.2.2.2.2.2.2.2.2.2.2.2.2.2.2.2.2.2.2.2.2.2.1
theorem own_w_F_ADD_ordinal {Z : State} {A : Nat → Addr} (hW : own_W Z A) : Fld Z Z.heap (A 3) "java/lang/Enum" "ordinal" "I" (.int (3 : Int32)) := by unfold own_W at hW; exact hW.2.2.2.2.2.2.2.2.2.2.2.2.2.2.2.2.2.2.2.2.2.2.2.2.2.2.2.2.2.2.2.2.2.2.2.2.2.2.2.2.2.2.2.2.2.2.2.2.2.2.2.2.2.2.2.2.2.2.2.2.1
theorem own_w_F_REMAINDER_precedence {Z : State} {A : Nat → Addr} (hW : own_W Z A) : Fld Z Z.heap (A 2) "com/example/kilnbyte/kilnbyte/tree/Operator" "precedence" "I" (.int (10 : Int32)) := by unfold own_W at hW; exact hW.2.2.2.2.2.2.2.2.2.2.2.2.2.2.2.2.2.2.2.2.2.2.2.2.2.2.2.2.2.2.2.2.2.2.2.2.2.2.2.2.2.2.2.2.2.2.2.2.2.2.2.2.2.2.2.2.2.2.2.2.2.1
theorem own_w_F_REMAINDER_ordinal {Z : State} {A : Nat → Addr} (hW : own_W Z A) : Fld Z Z.heap (A 2) "java/lang/Enum" "ordinal" "I" (.int (2 : Int32)) := by unfold own_W at hW; exact hW.2.2.2.2.2.2.2.2.2.2.2.2.2.2.2.2.2.2.2.2.2.2.2.2.2.2.2.2.2.2.2.2.2.2.2.2.2.2.2.2.2.2.2.2.2.2.2.2.2.2.2.2.2.2.2.2.2.2.2.2.2.2.1
theorem own_w_F_LESS_EQUAL_precedence {Z : State} {A : Nat → Addr} (hW : own_W Z A) : Fld Z Z.heap (A 10) "com/example/kilnbyte/kilnbyte/tree/Operator" "precedence" "I" (.int (7 : Int32)) := by unfold own_W at hW; exact hW.2.2.2.2.2.2.2.2.2.2.2.2.2.2.2.2.2.2.2.2.2.2.2.2.2.2.2.2.2.2.2.2.2.2.2.2.2.2.2.2.2.2.2.2.2.2.2.2.2.2.2.2.2.2.2.2.2.2.2.2.2.2.2.1
theorem own_w_F_LESS_EQUAL_ordinal {Z : State} {A : Nat → Addr} (hW : own_W Z A) : Fld Z Z.heap (A 10) "java/lang/Enum" "ordinal" "I" (.int (10 : Int32)) := by unfold own_W at hW; exact hW.2.2.2.2.2.2.2.2.2.2.2.2.2.2.2.2.2.2.2.2.2.2.2.2.2.2.2.2.2.2.2.2.2.2.2.2.2.2.2.2.2.2.2.2.2.2.2.2.2.2.2.2.2.2.2.2.2.2.2.2.2.2.2.2.1
theorem own_w_F_COMPLEMENT_precedence {Z : State} {A : Nat → Addr} (hW : own_W Z A) : Fld Z Z.heap (A 21) "com/example/kilnbyte/kilnbyte/tree/Operator" "precedence" "I" (.int (0 : Int32)) := by unfold own_W at hW; exact hW.2.2.2.2.2.2.2.2.2.2.2.2.2.2.2.2.2.2.2.2.2.2.2.2.2.2.2.2.2.2.2.2.2.2.2.2.2.2.2.2.2.2.2.2.2.2.2.2.2.2.2.2.2.2.2.2.2.2.2.2.2.2.2.2.2.1
theorem own_w_F_COMPLEMENT_ordinal {Z : State} {A : Nat → Addr} (hW : own_W Z A) : Fld Z Z.heap (A 21) "java/lang/Enum" "ordinal" "I" (.int (21 : Int32)) := by unfold own_W at hW; exact hW.2.2.2.2.2.2.2.2.2.2.2.2.2.2.2.2.2.2.2.2.2.2.2.2.2.2.2.2.2.2.2.2.2.2.2.2.2.2.2.2.2.2.2.2.2.2.2.2.2.2.2.2.2.2.2.2.2.2.2.2.2.2.2.2.2.2.1
theorem own_w_F_MINUS_precedence {Z : State} {A : Nat → Addr} (hW : own_W Z A) : Fld Z Z.heap (A 20) "com/example/kilnbyte/kilnbyte/tree/Operator" "precedence" "I" (.int (0 : Int32)) := by unfold own_W at hW; exact hW.2.2.2.2.2.2.2.2.2.2.2.2.2.2.2.2.2.2.2.2.2.2.2.2.2.2.2.2.2.2.2.2.2.2.2.2.2.2.2.2.2.2.2.2.2.2.2.2.2.2.2.2.2.2.2.2.2.2.2.2.2.2.2.2.2.2.2.1
theorem own_w_F_MINUS_ordinal {Z : State} {A : Nat → Addr} (hW : own_W Z A) : Fld Z Z.heap (A 20) "java/lang/Enum" "ordinal" "I" (.int (20 : Int32)) := by unfold own_W at hW; exact hW.2.2.2.2.2.2.2.2.2.2.2.2.2.2.2.2.2.2.2.2.2.2.2.2.2.2.2.2.2.2.2.2.2.2.2.2.2.2.2.2.2.2.2.2.2.2.2.2.2.2.2.2.2.2.2.2.2.2.2.2.2.2.2.2.2.2.2.2.1
theorem own_w_F_UNSIGNED_SHIFT_RIGHT_precedence {Z : State} {A : Nat → Addr} (hW : own_W Z A) : Fld Z Z.heap (A 7) "com/example/kilnbyte/kilnbyte/tree/Operator" "precedence" "I" (.int (8 : Int32)) := by unfold own_W at hW; exact hW.2.2.2.2.2.2.2.2.2.2.2.2.2.2.2.2.2.2.2.2.2.2.2.2.2.2.2.2.2.2.2.2.2.2.2.2.2.2.2.2.2.2.2.2.2.2.2.2.2.2.2.2.2.2.2.2.2.2.2.2.2.2.2.2.2.2.2.2.2.1
theorem own_w_F_UNSIGNED_SHIFT_RIGHT_ordinal {Z : State} {A : Nat → Addr} (hW : own_W Z A) : Fld Z Z.heap (A 7) "java/lang/Enum" "ordinal" "I" (.int (7 : Int32)) := by unfold own_W at hW; exact hW.2.2.2.2.2.2.2.2.2.2.2.2.2.2.2.2.2.2.2.2.2.2.2.2.2.2.2.2.2.2.2.2.2.2.2.2.2.2.2.2.2.2.2.2.2.2.2.2.2.2.2.2.2.2.2.2.2.2.2.2.2.2.2.2.2.2.2.2.2.2.1
theorem own_w_F_GREATER_EQUAL_precedence {Z : State} {A : Nat → Addr} (hW : own_W Z A) : Fld Z Z.heap (A 11) "com/example/kilnbyte/kilnbyte/tree/Operator" "precedence" "I" (.int (7 : Int32)) := by unfold own_W at hW; exact hW.2.2.2.2.2.2.2.2.2.2.2.2.2.2.2.2.2.2.2.2.2.2.2.2.2.2.2.2.2.2.2.2.2.2.2.2.2.2.2.2.2.2.2.2.2.2.2.2.2.2.2.2.2.2.2.2.2.2.2.2.2.2.2.2.2.2.2.2.2.2.2.1
theorem own_w_F_GREATER_EQUAL_ordinal {Z : State} {A : Nat → Addr} (hW : own_W Z A) : Fld Z Z.heap (A 11) "java/lang/Enum" "ordinal" "I" (.int (11 : Int32)) := by unfold own_W at hW; exact hW.2.2.2.2.2.2.2.2.2.2.2.2.2.2.2.2.2.2.2.2.2.2.2.2.2.2.2.2.2.2.2.2.2.2.2.2.2.2.2.2.2.2.2.2.2.2.2.2.2.2.2.2.2.2.2.2.2.2.2.2.2.2.2.2.2.2.2.2.2.2.2.2.1
theorem own_w_F_NOT_precedence {Z : State} {A : Nat → Addr} (hW : own_W Z A) : Fld Z Z.heap (A 22) "com/example/kilnbyte/kilnbyte/tree/Operator" "precedence" "I" (.int (0 : Int32)) := by unfold own_W at hW; exact hW.2.2.2.2.2.2.2.2.2.2.2.2.2.2.2.2.2.2.2.2.2.2.2.2.2.2.2.2.2.2.2.2.2.2.2.2.2.2.2.2.2.2.2.2.2.2.2.2.2.2.2.2.2.2.2.2.2.2.2.2.2.2.2.2.2.2.2.2.2.2.2.2.2.1
theorem own_w_F_NOT_ordinal {Z : State} {A : Nat → Addr} (hW : own_W Z A) : Fld Z Z.heap (A 22) "java/lang/Enum" "ordinal" "I" (.int (22 : Int32)) := by unfold own_W at hW; exact hW.2.2.2.2.2.2.2.2.2.2.2.2.2.2.2.2.2.2.2.2.2.2.2.2.2.2.2.2.2.2.2.2.2.2.2.2.2.2.2.2.2.2.2.2.2.2.2.2.2.2.2.2.2.2.2.2.2.2.2.2.2.2.2.2.2.2.2.2.2.2.2.2.2.2.1
theorem own_w_F_LESS_precedence {Z : State} {A : Nat → Addr} (hW : own_W Z A) : Fld Z Z.heap (A 8) "com/example/kilnbyte/kilnbyte/tree/Operator" "precedence" "I" (.int (7 : Int32)) := by unfold own_W at hW; exact hW.2.2.2.2.2.2.2.2.2.2.2.2.2.2.2.2.2.2.2.2.2.2.2.2.2.2.2.2.2.2.2.2.2.2.2.2.2.2.2.2.2.2.2.2.2.2.2.2.2.2.2.2.2.2.2.2.2.2.2.2.2.2.2.2.2.2.2.2.2.2.2.2.2.2.2.1
theorem own_w_F_LESS_ordinal {Z : State} {A : Nat → Addr} (hW : own_W Z A) : Fld Z Z.heap (A 8) "java/lang/Enum" "ordinal" "I" (.int (8 : Int32)) := by unfold own_W at hW; exact hW.2.2.2.2.2.2.2.2.2.2.2.2.2.2.2.2.2.2.2.2.2.2.2.2.2.2.2.2.2.2.2.2.2.2.2.2.2.2.2.2.2.2.2.2.2.2.2.2.2.2.2.2.2.2.2.2.2.2.2.2.2.2.2.2.2.2.2.2.2.2.2.2.2.2.2.2.1
theorem own_w_F_DIVIDE_precedence {Z : State} {A : Nat → Addr} (hW : own_W Z A) : Fld Z Z.heap (A 1) "com/example/kilnbyte/kilnbyte/tree/Operator" "precedence" "I" (.int (10 : Int32)) := by unfold own_W at hW; exact hW.2.2.2.2.2.2.2.2.2.2.2.2.2.2.2.2.2.2.2.2.2.2.2.2.2.2.2.2.2.2.2.2.2.2.2.2.2.2.2.2.2.2.2.2.2.2.2.2.2.2.2.2.2.2.2.2.2.2.2.2.2.2.2.2.2.2.2.2.2.2.2.2.2.2.2.2.2.1
theorem own_w_F_DIVIDE_ordinal {Z : State} {A : Nat → Addr} (hW : own_W Z A) : Fld Z Z.heap (A 1) "java/lang/Enum" "ordinal" "I" (.int (1 : Int32)) := by unfold own_W at hW; exact hW.2.2.2.2.2.2.2.2.2.2.2.2.2.2.2.2.2.2.2.2.2.2.2.2.2.2.2.2.2.2.2.2.2.2.2.2.2.2.2.2.2.2.2.2.2.2.2.2.2.2.2.2.2.2.2.2.2.2.2.2.2.2.2.2.2.2.2.2.2.2.2.2.2.2.2.2.2.2.1
theorem own_w_F_POST_INCREMENT_precedence {Z : State} {A : Nat → Addr} (hW : own_W Z A) : Fld Z Z.heap (A 25) "com/example/kilnbyte/kilnbyte/tree/Operator" "precedence" "I" (.int (0 : Int32)) := by unfold own_W at hW; exact hW.2.2.2.2.2.2.2.2.2.2.2.2.2.2.2.2.2.2.2.2.2.2.2.2.2.2.2.2.2.2.2.2.2.2.2.2.2.2.2.2.2.2.2.2.2.2.2.2.2.2.2.2.2.2.2.2.2.2.2.2.2.2.2.2.2.2.2.2.2.2.2.2.2.2.2.2.2.2.2.1
theorem own_w_F_POST_INCREMENT_ordinal {Z : State} {A : Nat → Addr} (hW : own_W Z A) : Fld Z Z.heap (A 25) "java/lang/Enum" "ordinal" "I" (.int (25 : Int32)) := by unfold own_W at hW; exact hW.2.2.2.2.2.2.2.2.2.2.2.2.2.2.2.2.2.2.2.2.2.2.2.2.2.2.2.2.2.2.2.2.2.2.2.2.2.2.2.2.2.2.2.2.2.2.2.2.2.2.2.2.2.2.2.2.2.2.2.2.2.2.2.2.2.2.2.2.2.2.2.2.2.2.2.2.2.2.2.2.1
theorem own_w_F_XOR_precedence {Z : State} {A : Nat → Addr} (hW : own_W Z A) : Fld Z Z.heap (A 15) "com/example/kilnbyte/kilnbyte/tree/Operator" "precedence" "I" (.int (4 : Int32)) := by unfold own_W at hW; exact hW.2.2.2.2.2.2.2.2.2.2.2.2.2.2.2.2.2.2.2.2.2.2.2.2.2.2.2.2.2.2.2.2.2.2.2.2.2.2.2.2.2.2.2.2.2.2.2.2.2.2.2.2.2.2.2.2.2.2.2.2.2.2.2.2.2.2.2.2.2.2.2.2.2.2.2.2.2.2.2.2.2.1
theorem own_w_F_SUBTRACT_precedence {Z : State} {A : Nat → Addr} (hW : own_W Z A) : Fld Z Z.heap (A 4) "com/example/kilnbyte/kilnbyte/tree/Operator" "precedence" "I" (.int (9 : Int32)) := by unfold own_W at hW; exact hW.2.2.2.2.2.2.2.2.2.2.2.2.2.2.2.2.2.2.2.2.2.2.2.2.2.2.2.2.2.2.2.2.2.2.2.2.2.2.2.2.2.2.2.2.2.2.2.2.2.2.2.2.2.2.2.2.2.2.2.2.2.2.2.2.2.2.2.2.2.2.2.2.2.2.2.2.2.2.2.2.2.2.1
theorem own_w_F_SUBTRACT_ordinal {Z : State} {A : Nat → Addr} (hW : own_W Z A) : Fld Z Z.heap (A 4) "java/lang/Enum" "ordinal" "I" (.int (4 : Int32)) := by unfold own_W at hW; exact hW.2.2.2.2.2.2.2.2.2.2.2.2.2.2.2.2.2.2.2.2.2.2.2.2.2.2.2.2.2.2.2.2.2.2.2.2.2.2.2.2.2.2.2.2.2.2.2.2.2.2.2.2.2.2.2.2.2.2.2.2.2.2.2.2.2.2.2.2.2.2.2.2.2.2.2.2.2.2.2.2.2.2.2.1
theorem own_w_F_OR_precedence {Z : State} {A : Nat → Addr} (hW : own_W Z A) : Fld Z Z.heap (A 16) "com/example/kilnbyte/kilnbyte/tree/Operator" "precedence" "I" (.int (3 : Int32)) := by unfold own_W at hW; exact hW.2.2.2.2.2.2.2.2.2.2.2.2.2.2.2.2.2.2.2.2.2.2.2.2.2.2.2.2.2.2.2.2.2.2.2.2.2.2.2.2.2.2.2.2.2.2.2.2.2.2.2.2.2.2.2.2.2.2.2.2.2.2.2.2.2.2.2.2.2.2.2.2.2.2.2.2.2.2.2.2.2.2.2.2.1
theorem own_w_F_SHIFT_RIGHT_precedence {Z : State} {A : Nat → Addr} (hW : own_W Z A) : Fld Z Z.heap (A 6) "com/example/kilnbyte/kilnbyte/tree/Operator" "precedence" "I" (.int (8 : Int32)) := by unfold own_W at hW; exact hW.2.2.2.2.2.2.2.2.2.2.2.2.2.2.2.2.2.2.2.2.2.2.2.2.2.2.2.2.2.2.2.2.2.2.2.2.2.2.2.2.2.2.2.2.2.2.2.2.2.2.2.2.2.2.2.2.2.2.2.2.2.2.2.2.2.2.2.2.2.2.2.2.2.2.2.2.2.2.2.2.2.2.2.2.2.1
theorem own_w_F_SHIFT_RIGHT_ordinal {Z : State} {A : Nat → Addr} (hW : own_W Z A) : Fld Z Z.heap (A 6) "java/lang/Enum" "ordinal" "I" (.int (6 : Int32)) := by unfold own_W at hW; exact hW.2.2.2.2.2.2.2.2.2.2.2.2.2.2.2.2.2.2.2.2.2.2.2.2.2.2.2.2.2.2.2.2.2.2.2.2.2.2.2.2.2.2.2.2.2.2.2.2.2.2.2.2.2.2.2.2.2.2.2.2.2.2.2.2.2.2.2.2.2.2.2.2.2.2.2.2.2.2.2.2.2.2.2.2.2.2.1
theorem own_w_F_PLUS_precedence {Z : State} {A : Nat → Addr} (hW : own_W Z A) : Fld Z Z.heap (A 19) "com/example/kilnbyte/kilnbyte/tree/Operator" "precedence" "I" (.int (0 : Int32)) := by unfold own_W at hW; exact hW.2.2.2.2.2.2.2.2.2.2.2.2.2.2.2.2.2.2.2.2.2.2.2.2.2.2.2.2.2.2.2.2.2.2.2.2.2.2.2.2.2.2.2.2.2.2.2.2.2.2.2.2.2.2.2.2.2.2.2.2.2.2.2.2.2.2.2.2.2.2.2.2.2.2.2.2.2.2.2.2.2.2.2.2.2.2.2.1
theorem own_w_F_PLUS_ordinal {Z : State} {A : Nat → Addr} (hW : own_W Z A) : Fld Z Z.heap (A 19) "java/lang/Enum" "ordinal" "I" (.int (19 : Int32)) := by unfold own_W at hW; exact hW.2.2.2.2.2.2.2.2.2.2.2.2.2.2.2.2.2.2.2.2.2.2.2.2.2.2.2.2.2.2.2.2.2.2.2.2.2.2.2.2.2.2.2.2.2.2.2.2.2.2.2.2.2.2.2.2.2.2.2.2.2.2.2.2.2.2.2.2.2.2.2.2.2.2.2.2.2.2.2.2.2.2.2.2.2.2.2.2.1
theorem own_w_F_NOT_EQUAL_precedence {Z : State} {A : Nat → Addr} (hW : own_W Z A) : Fld Z Z.heap (A 13) "com/example/kilnbyte/kilnbyte/tree/Operator" "precedence" "I" (.int (6 : Int32)) := by unfold own_W at hW; exact hW.2.2.2.2.2.2.2.2.2.2.2.2.2.2.2.2.2.2.2.2.2.2.2.2.2.2.2.2.2.2.2.2.2.2.2.2.2.2.2.2.2.2.2.2.2.2.2.2.2.2.2.2.2.2.2.2.2.2.2.2.2.2.2.2.2.2.2.2.2.2.2.2.2.2.2.2.2.2.2.2.2.2.2.2.2.2.2.2.2.1
theorem own_w_F_NOT_EQUAL_ordinal {Z : State} {A : Nat → Addr} (hW : own_W Z A) : Fld Z Z.heap (A 13) "java/lang/Enum" "ordinal" "I" (.int (13 : Int32)) := by unfold own_W at hW; exact hW.2.2.2.2.2.2.2.2.2.2.2.2.2.2.2.2.2.2.2.2.2.2.2.2.2.2.2.2.2.2.2.2.2.2.2.2.2.2.2.2.2.2.2.2.2.2.2.2.2.2.2.2.2.2.2.2.2.2.2.2.2.2.2.2.2.2.2.2.2.2.2.2.2.2.2.2.2.2.2.2.2.2.2.2.2.2.2.2.2.2.1
theorem own_w_F_AND_precedence {Z : State} {A : Nat → Addr} (hW : own_W Z A) : Fld Z Z.heap (A 14) "com/example/kilnbyte/kilnbyte/tree/Operator" "precedence" "I" (.int (5 : Int32)) := by unfold own_W at hW; exact hW.2.2.2.2.2.2.2.2.2.2.2.2.2.2.2.2.2.2.2.2.2.2.2.2.2.2.2.2.2.2.2.2.2.2.2.2.2.2.2.2.2.2.2.2.2.2.2.2.2.2.2.2.2.2.2.2.2.2.2.2.2.2.2.2.2.2.2.2.2.2.2.2.2.2.2.2.2.2.2.2.2.2.2.2.2.2.2.2.2.2.2.1
theorem own_w_F_CONDITIONAL_AND_precedence {Z : State} {A : Nat → Addr} (hW : own_W Z A) : Fld Z Z.heap (A 17) "com/example/kilnbyte/kilnbyte/tree/Operator" "precedence" "I" (.int (2 : Int32)) := by unfold own_W at hW; exact hW.2.2.2.2.2.2.2.2.2.2.2.2.2.2.2.2.2.2.2.2.2.2.2.2.2.2.2.2.2.2.2.2.2.2.2.2.2.2.2.2.2.2.2.2.2.2.2.2.2.2.2.2.2.2.2.2.2.2.2.2.2.2.2.2.2.2.2.2.2.2.2.2.2.2.2.2.2.2.2.2.2.2.2.2.2.2.2.2.2.2.2.2.1
theorem own_w_F_CONDITIONAL_AND_ordinal {Z : State} {A : Nat → Addr} (hW : own_W Z A) : Fld Z Z.heap (A 17) "java/lang/Enum" "ordinal" "I" (.int (17 : Int32)) := by unfold own_W at hW; exact hW.2.2.2.2.2.2.2.2.2.2.2.2.2.2.2.2.2.2.2.2.2.2.2.2.2.2.2.2.2.2.2.2.2.2.2.2.2.2.2.2.2.2.2.2.2.2.2.2.2.2.2.2.2.2.2.2.2.2.2.2.2.2.2.2.2.2.2.2.2.2.2.2.2.2.2.2.2.2.2.2.2.2.2.2.2.2.2.2.2.2.2.2.2.1
theorem own_w_F_POST_DECREMENT_precedence {Z : State} {A : Nat → Addr} (hW : own_W Z A) : Fld Z Z.heap (A 26) "com/example/kilnbyte/kilnbyte/tree/Operator" "precedence" "I" (.int (0 : Int32)) := by unfold own_W at hW; exact hW.2.2.2.2.2.2.2.2.2.2.2.2.2.2.2.2.2.2.2.2.2.2.2.2.2.2.2.2.2.2.2.2.2.2.2.2.2.2.2.2.2.2.2.2.2.2.2.2.2.2.2.2.2.2.2.2.2.2.2.2.2.2.2.2.2.2.2.2.2.2.2.2.2.2.2.2.2.2.2.2.2.2.2.2.2.2.2.2.2.2.2.2.2.2.1
theorem own_w_F_POST_DECREMENT_ordinal {Z : State} {A : Nat → Addr} (hW : own_W Z A) : Fld Z Z.heap (A 26) "java/lang/Enum" "ordinal" "I" (.int (26 : Int32)) := by unfold own_W at hW; exact hW.2.2.2.2.2.2.2.2.2.2.2.2.2.2.2.2.2.2.2.2.2.2.2.2.2.2.2.2.2.2.2.2.2.2.2.2.2.2.2.2.2.2.2.2.2.2.2.2.2.2.2.2.2.2.2.2.2.2.2.2.2.2.2.2.2.2.2.2.2.2.2.2.2.2.2.2.2.2.2.2.2.2.2.2.2.2.2.2.2.2.2.2.2.2.2.1
theorem own_w_F_EQUAL_precedence {Z : State} {A : Nat → Addr} (hW : own_W Z A) : Fld Z Z.heap (A 12) "com/example/kilnbyte/kilnbyte/tree/Operator" "precedence" "I" (.int (6 : Int32)) := by unfold own_W at hW; exact hW.2.2.2.2.2.2.2.2.2.2.2.2.2.2.2.2.2.2.2.2.2.2.2.2.2.2.2.2.2.2.2.2.2.2.2.2.2.2.2.2.2.2.2.2.2.2.2.2.2.2.2.2.2.2.2.2.2.2.2.2.2.2.2.2.2.2.2.2.2.2.2.2.2.2.2.2.2.2.2.2.2.2.2.2.2.2.2.2.2.2.2.2.2.2.2.2.1
theorem own_w_F_EQUAL_ordinal {Z : State} {A : Nat → Addr} (hW : own_W Z A) : Fld Z Z.heap (A 12) "java/lang/Enum" "ordinal" "I" (.int (12 : Int32)) := by unfold own_W at hW; exact hW.2.2.2.2.2.2.2.2.2.2.2.2.2.2.2.2.2.2.2.2.2.2.2.2.2.2.2.2.2.2.2.2.2.2.2.2.2.2.2.2.2.2.2.2.2.2.2.2.2.2.2.2.2.2.2.2.2.2.2.2.2.2.2.2.2.2.2.2.2.2.2.2.2.2.2.2.2.2.2.2.2.2.2.2.2.2.2.2.2.2.2.2.2.2.2.2.2.1
theorem own_w_F_SHIFT_LEFT_precedence {Z : State} {A : Nat → Addr} (hW : own_W Z A) : Fld Z Z.heap (A 5) "com/example/kilnbyte/kilnbyte/tree/Operator" "precedence" "I" (.int (8 : Int32)) := by unfold own_W at hW; exact hW.2.2.2.2.2.2.2.2.2.2.2.2.2.2.2.2.2.2.2.2.2.2.2.2.2.2.2.2.2.2.2.2.2.2.2.2.2.2.2.2.2.2.2.2.2.2.2.2.2.2.2.2.2.2.2.2.2.2.2.2.2.2.2.2.2.2.2.2.2.2.2.2.2.2.2.2.2.2.2.2.2.2.2.2.2.2.2.2.2.2.2.2.2.2.2.2.2.2.1
theorem own_w_F_SHIFT_LEFT_ordinal {Z : State} {A : Nat → Addr} (hW : own_W Z A) : Fld Z Z.heap (A 5) "java/lang/Enum" "ordinal" "I" (.int (5 : Int32)) := by unfold own_W at hW; exact hW.2.2.2.2.2.2.2.2.2.2.2.2.2.2.2.2.2.2.2.2.2.2.2.2.2.2.2.2.2.2.2.2.2.2.2.2.2.2.2.2.2.2.2.2.2.2.2.2.2.2.2.2.2.2.2.2.2.2.2.2.2.2.2.2.2.2.2.2.2.2.2.2.2.2.2.2.2.2.2.2.2.2.2.2.2.2.2.2.2.2.2.2.2.2.2.2.2.2.2.1
theorem own_w_F_CONDITIONAL_OR_precedence {Z : State} {A : Nat → Addr} (hW : own_W Z A) : Fld Z Z.heap (A 18) "com/example/kilnbyte/kilnbyte/tree/Operator" "precedence" "I" (.int (1 : Int32)) := by unfold own_W at hW; exact hW.2.2.2.2.2.2.2.2.2.2.2.2.2.2.2.2.2.2.2.2.2.2.2.2.2.2.2.2.2.2.2.2.2.2.2.2.2.2.2.2.2.2.2.2.2.2.2.2.2.2.2.2.2.2.2.2.2.2.2.2.2.2.2.2.2.2.2.2.2.2.2.2.2.2.2.2.2.2.2.2.2.2.2.2.2.2.2.2.2.2.2.2.2.2.2.2.2.2.2.2.1
theorem own_w_F_CONDITIONAL_OR_ordinal {Z : State} {A : Nat → Addr} (hW : own_W Z A) : Fld Z Z.heap (A 18) "java/lang/Enum" "ordinal" "I" (.int (18 : Int32)) := by unfold own_W at hW; exact hW.2.2.2.2.2.2.2.2.2.2.2.2.2.2.2.2.2.2.2.2.2.2.2.2.2.2.2.2.2.2.2.2.2.2.2.2.2.2.2.2.2.2.2.2.2.2.2.2.2.2.2.2.2.2.2.2.2.2.2.2.2.2.2.2.2.2.2.2.2.2.2.2.2.2.2.2.2.2.2.2.2.2.2.2.2.2.2.2.2.2.2.2.2.2.2.2.2.2.2.2.2.1
theorem own_w_F_GREATER_precedence {Z : State} {A : Nat → Addr} (hW : own_W Z A) : Fld Z Z.heap (A 9) "com/example/kilnbyte/kilnbyte/tree/Operator" "precedence" "I" (.int (7 : Int32)) := by unfold own_W at hW; exact hW.2.2.2.2.2.2.2.2.2.2.2.2.2.2.2.2.2.2.2.2.2.2.2.2.2.2.2.2.2.2.2.2.2.2.2.2.2.2.2.2.2.2.2.2.2.2.2.2.2.2.2.2.2.2.2.2.2.2.2.2.2.2.2.2.2.2.2.2.2.2.2.2.2.2.2.2.2.2.2.2.2.2.2.2.2.2.2.2.2.2.2.2.2.2.2.2.2.2.2.2.2.2.1
theorem own_w_F_GREATER_ordinal {Z : State} {A : Nat → Addr} (hW : own_W Z A) : Fld Z Z.heap (A 9) "java/lang/Enum" "ordinal" "I" (.int (9 : Int32)) := by unfold own_W at hW; exact hW.2.2.2.2.2.2.2.2.2.2.2.2.2.2.2.2.2.2.2.2.2.2.2.2.2.2.2.2.2.2.2.2.2.2.2.2.2.2.2.2.2.2.2.2.2.2.2.2.2.2.2.2.2.2.2.2.2.2.2.2.2.2.2.2.2.2.2.2.2.2.2.2.2.2.2.2.2.2.2.2.2.2.2.2.2.2.2.2.2.2.2.2.2.2.2.2.2.2.2.2.2.2.2.1
theorem own_w_F_PRE_DECREMENT_precedence {Z : State} {A : Nat → Addr} (hW : own_W Z A) : Fld Z Z.heap (A 24) "com/example/kilnbyte/kilnbyte/tree/Operator" "precedence" "I" (.int (0 : Int32)) := by unfold own_W at hW; exact hW.2.2.2.2.2.2.2.2.2.2.2.2.2.2.2.2.2.2.2.2.2.2.2.2.2.2.2.2.2.2.2.2.2.2.2.2.2.2.2.2.2.2.2.2.2.2.2.2.2.2.2.2.2.2.2.2.2.2.2.2.2.2.2.2.2.2.2.2.2.2.2.2.2.2.2.2.2.2.2.2.2.2.2.2.2.2.2.2.2.2.2.2.2.2.2.2.2.2.2.2.2.2.2.2.1
theorem own_w_F_PRE_DECREMENT_ordinal {Z : State} {A : Nat → Addr} (hW : own_W Z A) : Fld Z Z.heap (A 24) "java/lang/Enum" "ordinal" "I" (.int (24 : Int32)) := by unfold own_W at hW; exact hW.2.2.2.2.2.2.2.2.2.2.2.2.2.2.2.2.2.2.2.2.2.2.2.2.2.2.2.2.2.2.2.2.2.2.2.2.2.2.2.2.2.2.2.2.2.2.2.2.2.2.2.2.2.2.2.2.2.2.2.2.2.2.2.2.2.2.2.2.2.2.2.2.2.2.2.2.2.2.2.2.2.2.2.2.2.2.2.2.2.2.2.2.2.2.2.2.2.2.2.2.2.2.2.2.2.1
theorem own_w_F_PRE_INCREMENT_precedence {Z : State} {A : Nat → Addr} (hW : own_W Z A) : Fld Z Z.heap (A 23) "com/example/kilnbyte/kilnbyte/tree/Operator" "precedence" "I" (.int (0 : Int32)) := by unfold own_W at hW; exact hW.2.2.2.2.2.2.2.2.2.2.2.2.2.2.2.2.2.2.2.2.2.2.2.2.2.2.2.2.2.2.2.2.2.2.2.2.2.2.2.2.2.2.2.2.2.2.2.2.2.2.2.2.2.2.2.2.2.2.2.2.2.2.2.2.2.2.2.2.2.2.2.2.2.2.2.2.2.2.2.2.2.2.2.2.2.2.2.2.2.2.2.2.2.2.2.2.2.2.2.2.2.2.2.2.2.2.1
theorem own_w_F_PRE_INCREMENT_ordinal {Z : State} {A : Nat → Addr} (hW : own_W Z A) : Fld Z Z.heap (A 23) "java/lang/Enum" "ordinal" "I" (.int (23 : Int32)) := by unfold own_W at hW; exact hW.2.2.2.2.2.2.2.2.2.2.2.2.2.2.2.2.2.2.2.2.2.2.2.2.2.2.2.2.2.2.2.2.2.2.2.2.2.2.2.2.2.2.2.2.2.2.2.2.2.2.2.2.2.2.2.2.2.2.2.2.2.2.2.2.2.2.2.2.2.2.2.2.2.2.2.2.2.2.2.2.2.2.2.2.2.2.2.2.2.2.2.2.2.2.2.2.2.2.2.2.2.2.2.2.2.2.2
theorem own_c27 (x : Int32) : ((x &&& (2147483647 : Int32)) % (27 : Int32)) = (0 : Int32) ∨ ((x &&& (2147483647 : Int32)) % (27 : Int32)) = (1 : Int32) ∨ ((x &&& (2147483647 : Int32)) % (27 : Int32)) = (2 : Int32) ∨ ((x &&& (2147483647 : Int32)) % (27 : Int32)) = (3 : Int32) ∨ ((x &&& (2147483647 : Int32)) % (27 : Int32)) = (4 : Int32) ∨ ((x &&& (2147483647 : Int32)) % (27 : Int32)) = (5 : Int32) ∨ ((x &&& (2147483647 : Int32)) % (27 : Int32)) = (6 : Int32) ∨ ((x &&& (2147483647 : Int32)) % (27 : Int32)) = (7 : Int32) ∨ ((x &&& (2147483647 : Int32)) % (27 : Int32)) = (8 : Int32) ∨ ((x &&& (2147483647 : Int32)) % (27 : Int32)) = (9 : Int32) ∨ ((x &&& (2147483647 : Int32)) % (27 : Int32)) = (10 : Int32) ∨ ((x &&& (2147483647 : Int32)) % (27 : Int32)) = (11 : Int32) ∨ ((x &&& (2147483647 : Int32)) % (27 : Int32)) = (12 : Int32) ∨ ((x &&& (2147483647 : Int32)) % (27 : Int32)) = (13 : Int32) ∨ ((x &&& (2147483647 : Int32)) % (27 : Int32)) = (14 : Int32) ∨ ((x &&& (2147483647 : Int32)) % (27 : Int32)) = (15 : Int32) ∨ ((x &&& (2147483647 : Int32)) % (27 : Int32)) = (16 : Int32) ∨ ((x &&& (2147483647 : Int32)) % (27 : Int32)) = (17 : Int32) ∨ ((x &&& (2147483647 : Int32)) % (27 : Int32)) = (18 : Int32) ∨ ((x &&& (2147483647 : Int32)) % (27 : Int32)) = (19 : Int32) ∨ ((x &&& (2147483647 : Int32)) % (27 : Int32)) = (20 : Int32) ∨ ((x &&& (2147483647 : Int32)) % (27 : Int32)) = (21 : Int32) ∨ ((x &&& (2147483647 : Int32)) % (27 : Int32)) = (22 : Int32) ∨ ((x &&& (2147483647 : Int32)) % (27 : Int32)) = (23 : Int32) ∨ ((x &&& (2147483647 : Int32)) % (27 : Int32)) = (24 : Int32) ∨ ((x &&& (2147483647 : Int32)) % (27 : Int32)) = (25 : Int32) ∨ ((x &&& (2147483647 : Int32)) % (27 : Int32)) = (26 : Int32) := by
  have h := own_rem (n := (27 : Int32)) (own_msk x) (by decide)
  generalize ((x &&& (2147483647 : Int32)) % (27 : Int32)) = i at h ⊢
  have hn : ((27 : Int32)).toInt = 27 := by decide
  rw [hn] at h
  rcases (by omega : i.toInt = 0 ∨ i.toInt = 1 ∨ i.toInt = 2 ∨ i.toInt = 3 ∨ i.toInt = 4 ∨ i.toInt = 5 ∨ i.toInt = 6 ∨ i.toInt = 7 ∨ i.toInt = 8 ∨ i.toInt = 9 ∨ i.toInt = 10 ∨ i.toInt = 11 ∨ i.toInt = 12 ∨ i.toInt = 13 ∨ i.toInt = 14 ∨ i.toInt = 15 ∨ i.toInt = 16 ∨ i.toInt = 17 ∨ i.toInt = 18 ∨ i.toInt = 19 ∨ i.toInt = 20 ∨ i.toInt = 21 ∨ i.toInt = 22 ∨ i.toInt = 23 ∨ i.toInt = 24 ∨ i.toInt = 25 ∨ i.toInt = 26) with q | q | q | q | q | q | q | q | q | q | q | q | q | q | q | q | q | q | q | q | q | q | q | q | q | q | q
  · exact Or.inl (Int32.toInt_inj.mp (q.trans (by decide : (0 : Int) = ((0 : Int32)).toInt)))
  · exact Or.inr (Or.inl (Int32.toInt_inj.mp (q.trans (by decide : (1 : Int) = ((1 : Int32)).toInt))))
  · exact Or.inr (Or.inr (Or.inl (Int32.toInt_inj.mp (q.trans (by decide : (2 : Int) = ((2 : Int32)).toInt)))))
  · exact Or.inr (Or.inr (Or.inr (Or.inl (Int32.toInt_inj.mp (q.trans (by decide : (3 : Int) = ((3 : Int32)).toInt))))))
  · exact Or.inr (Or.inr (Or.inr (Or.inr (Or.inl (Int32.toInt_inj.mp (q.trans (by decide : (4 : Int) = ((4 : Int32)).toInt)))))))
  · exact Or.inr (Or.inr (Or.inr (Or.inr (Or.inr (Or.inl (Int32.toInt_inj.mp (q.trans (by decide : (5 : Int) = ((5 : Int32)).toInt))))))))
  · exact Or.inr (Or.inr (Or.inr (Or.inr (Or.inr (Or.inr (Or.inl (Int32.toInt_inj.mp (q.trans (by decide : (6 : Int) = ((6 : Int32)).toInt)))))))))
  · exact Or.inr (Or.inr (Or.inr (Or.inr (Or.inr (Or.inr (Or.inr (Or.inl (Int32.toInt_inj.mp (q.trans (by decide : (7 : Int) = ((7 : Int32)).toInt))))))))))
  · exact Or.inr (Or.inr (Or.inr (Or.inr (Or.inr (Or.inr (Or.inr (Or.inr (Or.inl (Int32.toInt_inj.mp (q.trans (by decide : (8 : Int) = ((8 : Int32)).toInt)))))))))))
  · exact Or.inr (Or.inr (Or.inr (Or.inr (Or.inr (Or.inr (Or.inr (Or.inr (Or.inr (Or.inl (Int32.toInt_inj.mp (q.trans (by decide : (9 : Int) = ((9 : Int32)).toInt))))))))))))
  · exact Or.inr (Or.inr (Or.inr (Or.inr (Or.inr (Or.inr (Or.inr (Or.inr (Or.inr (Or.inr (Or.inl (Int32.toInt_inj.mp (q.trans (by decide : (10 : Int) = ((10 : Int32)).toInt)))))))))))))
  · exact Or.inr (Or.inr (Or.inr (Or.inr (Or.inr (Or.inr (Or.inr (Or.inr (Or.inr (Or.inr (Or.inr (Or.inl (Int32.toInt_inj.mp (q.trans (by decide : (11 : Int) = ((11 : Int32)).toInt))))))))))))))
  · exact Or.inr (Or.inr (Or.inr (Or.inr (Or.inr (Or.inr (Or.inr (Or.inr (Or.inr (Or.inr (Or.inr (Or.inr (Or.inl (Int32.toInt_inj.mp (q.trans (by decide : (12 : Int) = ((12 : Int32)).toInt)))))))))))))))
  · exact Or.inr (Or.inr (Or.inr (Or.inr (Or.inr (Or.inr (Or.inr (Or.inr (Or.inr (Or.inr (Or.inr (Or.inr (Or.inr (Or.inl (Int32.toInt_inj.mp (q.trans (by decide : (13 : Int) = ((13 : Int32)).toInt))))))))))))))))
  · exact Or.inr (Or.inr (Or.inr (Or.inr (Or.inr (Or.inr (Or.inr (Or.inr (Or.inr (Or.inr (Or.inr (Or.inr (Or.inr (Or.inr (Or.inl (Int32.toInt_inj.mp (q.trans (by decide : (14 : Int) = ((14 : Int32)).toInt)))))))))))))))))
  · exact Or.inr (Or.inr (Or.inr (Or.inr (Or.inr (Or.inr (Or.inr (Or.inr (Or.inr (Or.inr (Or.inr (Or.inr (Or.inr (Or.inr (Or.inr (Or.inl (Int32.toInt_inj.mp (q.trans (by decide : (15 : Int) = ((15 : Int32)).toInt))))))))))))))))))
  · exact Or.inr (Or.inr (Or.inr (Or.inr (Or.inr (Or.inr (Or.inr (Or.inr (Or.inr (Or.inr (Or.inr (Or.inr (Or.inr (Or.inr (Or.inr (Or.inr (Or.inl (Int32.toInt_inj.mp (q.trans (by decide : (16 : Int) = ((16 : Int32)).toInt)))))))))))))))))))
  · exact Or.inr (Or.inr (Or.inr (Or.inr (Or.inr (Or.inr (Or.inr (Or.inr (Or.inr (Or.inr (Or.inr (Or.inr (Or.inr (Or.inr (Or.inr (Or.inr (Or.inr (Or.inl (Int32.toInt_inj.mp (q.trans (by decide : (17 : Int) = ((17 : Int32)).toInt))))))))))))))))))))
  · exact Or.inr (Or.inr (Or.inr (Or.inr (Or.inr (Or.inr (Or.inr (Or.inr (Or.inr (Or.inr (Or.inr (Or.inr (Or.inr (Or.inr (Or.inr (Or.inr (Or.inr (Or.inr (Or.inl (Int32.toInt_inj.mp (q.trans (by decide : (18 : Int) = ((18 : Int32)).toInt)))))))))))))))))))))
  · exact Or.inr (Or.inr (Or.inr (Or.inr (Or.inr (Or.inr (Or.inr (Or.inr (Or.inr (Or.inr (Or.inr (Or.inr (Or.inr (Or.inr (Or.inr (Or.inr (Or.inr (Or.inr (Or.inr (Or.inl (Int32.toInt_inj.mp (q.trans (by decide : (19 : Int) = ((19 : Int32)).toInt))))))))))))))))))))))
  · exact Or.inr (Or.inr (Or.inr (Or.inr (Or.inr (Or.inr (Or.inr (Or.inr (Or.inr (Or.inr (Or.inr (Or.inr (Or.inr (Or.inr (Or.inr (Or.inr (Or.inr (Or.inr (Or.inr (Or.inr (Or.inl (Int32.toInt_inj.mp (q.trans (by decide : (20 : Int) = ((20 : Int32)).toInt)))))))))))))))))))))))
  · exact Or.inr (Or.inr (Or.inr (Or.inr (Or.inr (Or.inr (Or.inr (Or.inr (Or.inr (Or.inr (Or.inr (Or.inr (Or.inr (Or.inr (Or.inr (Or.inr (Or.inr (Or.inr (Or.inr (Or.inr (Or.inr (Or.inl (Int32.toInt_inj.mp (q.trans (by decide : (21 : Int) = ((21 : Int32)).toInt))))))))))))))))))))))))
  · exact Or.inr (Or.inr (Or.inr (Or.inr (Or.inr (Or.inr (Or.inr (Or.inr (Or.inr (Or.inr (Or.inr (Or.inr (Or.inr (Or.inr (Or.inr (Or.inr (Or.inr (Or.inr (Or.inr (Or.inr (Or.inr (Or.inr (Or.inl (Int32.toInt_inj.mp (q.trans (by decide : (22 : Int) = ((22 : Int32)).toInt)))))))))))))))))))))))))
  · exact Or.inr (Or.inr (Or.inr (Or.inr (Or.inr (Or.inr (Or.inr (Or.inr (Or.inr (Or.inr (Or.inr (Or.inr (Or.inr (Or.inr (Or.inr (Or.inr (Or.inr (Or.inr (Or.inr (Or.inr (Or.inr (Or.inr (Or.inr (Or.inl (Int32.toInt_inj.mp (q.trans (by decide : (23 : Int) = ((23 : Int32)).toInt))))))))))))))))))))))))))
  · exact Or.inr (Or.inr (Or.inr (Or.inr (Or.inr (Or.inr (Or.inr (Or.inr (Or.inr (Or.inr (Or.inr (Or.inr (Or.inr (Or.inr (Or.inr (Or.inr (Or.inr (Or.inr (Or.inr (Or.inr (Or.inr (Or.inr (Or.inr (Or.inr (Or.inl (Int32.toInt_inj.mp (q.trans (by decide : (24 : Int) = ((24 : Int32)).toInt)))))))))))))))))))))))))))
  · exact Or.inr (Or.inr (Or.inr (Or.inr (Or.inr (Or.inr (Or.inr (Or.inr (Or.inr (Or.inr (Or.inr (Or.inr (Or.inr (Or.inr (Or.inr (Or.inr (Or.inr (Or.inr (Or.inr (Or.inr (Or.inr (Or.inr (Or.inr (Or.inr (Or.inr (Or.inl (Int32.toInt_inj.mp (q.trans (by decide : (25 : Int) = ((25 : Int32)).toInt))))))))))))))))))))))))))))
  · exact Or.inr (Or.inr (Or.inr (Or.inr (Or.inr (Or.inr (Or.inr (Or.inr (Or.inr (Or.inr (Or.inr (Or.inr (Or.inr (Or.inr (Or.inr (Or.inr (Or.inr (Or.inr (Or.inr (Or.inr (Or.inr (Or.inr (Or.inr (Or.inr (Or.inr (Or.inr ((Int32.toInt_inj.mp (q.trans (by decide : (26 : Int) = ((26 : Int32)).toInt)))))))))))))))))))))))))))))
theorem pn_0 : plainName "com/example/kilnbyte/kilnbyte/tree/OperatorIsBitwisePinLaw" = true := by first | (simp [plainName, overriddenIn]; done) | decide +kernel
theorem ef_0 (m : MethodId) (x0 : Int32) : entryFrame m #[(.int x0)] maxLocals = mkF m 0 #[.val (.int x0), .unset, .unset, .unset, .unset, .unset] [] := by first | (simp [entryFrame, mkF, argsToLocals, Value.category, maxLocals]; done) | rfl
theorem pn_1 : plainName "com/example/kilnbyte/kilnbyte/tree/Operator" = true := by first | (simp [plainName, overriddenIn]; done) | decide +kernel
theorem ef_1 (m : MethodId) (x0 : Addr) : entryFrame m #[(.ref x0)] 1 = mkF m 0 #[.val (.ref x0)] [] := by first | (simp [entryFrame, mkF, argsToLocals, Value.category]; done) | rfl
theorem d1_0 : decode prog_214_method_5_code 0 = .ok (.aload_n 0, 1) := by decide +kernel
theorem d1_1 : decode prog_214_method_5_code 1 = .ok (.getfield 108, 3) := by decide +kernel
theorem d1_4 : decode prog_214_method_5_code 4 = .ok (.ireturn, 1) := by decide +kernel
theorem pd_0 : parseMethodDescriptor "()I" = some ⟨[], some .int⟩ := by decide +kernel
theorem ef_2 (m : MethodId) (x0 : Addr) : entryFrame m #[(.ref x0)] 1 = mkF m 0 #[.val (.ref x0)] [] := by first | (simp [entryFrame, mkF, argsToLocals, Value.category]; done) | rfl
theorem d2_0 : decode prog_214_method_10_code 0 = .ok (.aload_n 0, 1) := by decide +kernel
theorem d2_1 : decode prog_214_method_10_code 1 = .ok (.getstatic 46, 3) := by decide +kernel
theorem d2_4 : decode prog_214_method_10_code 4 = .ok (.if_acmp .eq 17, 3) := by decide +kernel
theorem d2_7 : decode prog_214_method_10_code 7 = .ok (.aload_n 0, 1) := by decide +kernel
theorem d2_8 : decode prog_214_method_10_code 8 = .ok (.getstatic 49, 3) := by decide +kernel
theorem d2_11 : decode prog_214_method_10_code 11 = .ok (.if_acmp .eq 10, 3) := by decide +kernel
theorem d2_14 : decode prog_214_method_10_code 14 = .ok (.aload_n 0, 1) := by decide +kernel
theorem d2_15 : decode prog_214_method_10_code 15 = .ok (.getstatic 52, 3) := by decide +kernel
theorem d2_18 : decode prog_214_method_10_code 18 = .ok (.if_acmp .ne 7, 3) := by decide +kernel
theorem d2_25 : decode prog_214_method_10_code 25 = .ok (.iconst 0, 1) := by decide +kernel
theorem d2_26 : decode prog_214_method_10_code 26 = .ok (.ireturn, 1) := by decide +kernel
theorem pd_1 : parseMethodDescriptor "()Z" = some ⟨[], some .boolean⟩ := by decide +kernel
theorem d2_21 : decode prog_214_method_10_code 21 = .ok (.iconst 1, 1) := by decide +kernel
theorem d2_22 : decode prog_214_method_10_code 22 = .ok (.goto 4, 3) := by decide +kernel
set_option maxRecDepth 65536 in
set_option maxHeartbeats 40000000 in
theorem rm1_0 (l : Launch) (Z : State) (a0 : Array Value) (hw : ∀ d ∈ tables_1, d.before a0 Z = true) (ws : List Jvm.Cond)  (A : Nat → Addr) (hW : own_W Z A) (h0 : Heap) (x0 : Ext Z.heap h0)  :
    own_Met l Z (⟨"com/example/kilnbyte/kilnbyte/tree/Operator", "precedence", "()I"⟩ : MethodName) prog_214_method_5_code 1 (some .int) ws ({ frames := 0, cells := 0, slots := 0, locals := 0 } : Room) #[(.ref (A 0))] h0 (fun v_ h_ L_ => v_ = some (.int (10 : Int32)) ∧ Fr Z.heap.size L_ ∧ h_ = h0) := by
  refine own_body (plainFor_of_name pn_1) fun p e s m below meth c s₁ hx hby hml hown hnm hlk hrt hZ X0 e0 => ?_
  have N0 := Fr.nil Z.heap.size
  have F_MULTIPLY_precedence := own_w_F_MULTIPLY_precedence hW
  refine own_go (B := s₁.setTop (mkF m 0 #[.val (.ref (A 0))] [])) (fun t k => castTop (ef_1 m (A 0)) k) ?_
  refine own_go (B := s₁.setTop (mkF m 1 #[.val (.ref (A 0))] [(.ref (A 0))])) (fun _ k => XS.aloadN X0.here hx rfl (hb hby d1_0) rfl rfl k) ?_
  obtain ⟨T1, X1, e1, st1⟩ := getF X0 hx hZ hown (host := "") (Or.inl (hw _ (List.mem_of_getElem? (i := 64) rfl))) Via.refl e0 (F_MULTIPLY_precedence.ext x0) (g := (mkF m 1 #[.val (.ref (A 0))] [(.ref (A 0))])) rfl rfl (hb hby d1_1)
  refine own_go (B := T1.setTop (mkF m 4 #[.val (.ref (A 0))] [(.int (10 : Int32))])) st1 ?_
  exact own_ret X1 hx (t := .int) hrt rfl (Or.inl ⟨rfl, by simp, _, rfl⟩) (hb hby d1_4) hlk ⟨rfl, N0, e1⟩ (by decide) (by decide)
set_option maxRecDepth 65536 in
set_option maxHeartbeats 40000000 in
theorem rm2_0 (l : Launch) (Z : State) (a0 : Array Value) (hw : ∀ d ∈ tables_1, d.before a0 Z = true) (ws : List Jvm.Cond)  (A : Nat → Addr) (hW : own_W Z A) (h0 : Heap) (x0 : Ext Z.heap h0)  :
    own_Met l Z (⟨"com/example/kilnbyte/kilnbyte/tree/Operator", "isBitwise", "()Z"⟩ : MethodName) prog_214_method_10_code 1 (some .boolean) ws ({ frames := 0, cells := 0, slots := 0, locals := 0 } : Room) #[(.ref (A 0))] h0 (fun v_ h_ L_ => v_ = some (.int (0 : Int32)) ∧ Fr Z.heap.size L_ ∧ h_ = h0) := by
  refine own_body (plainFor_of_name pn_1) fun p e s m below meth c s₁ hx hby hml hown hnm hlk hrt hZ X0 e0 => ?_
  have N0 := Fr.nil Z.heap.size
  have S_AND := own_w_S_AND hW
  have S_XOR := own_w_S_XOR hW
  have S_OR := own_w_S_OR hW
  have F_MULTIPLY_precedence := own_w_F_MULTIPLY_precedence hW
  have F_XOR_precedence := own_w_F_XOR_precedence hW
  have F_OR_precedence := own_w_F_OR_precedence hW
  have F_AND_precedence := own_w_F_AND_precedence hW
  refine own_go (B := s₁.setTop (mkF m 0 #[.val (.ref (A 0))] [])) (fun t k => castTop (ef_2 m (A 0)) k) ?_
  refine own_go (B := s₁.setTop (mkF m 1 #[.val (.ref (A 0))] [(.ref (A 0))])) (fun _ k => XS.aloadN X0.here hx rfl (hb hby d2_0) rfl rfl k) ?_
  obtain ⟨T1, X1, e1, st1⟩ := getS2 X0 hx hZ hown (host := "") (Or.inl (hw _ (List.mem_of_getElem? (i := 71) rfl))) Via.refl e0 (S_AND.ext x0) (g := (mkF m 1 #[.val (.ref (A 0))] [(.ref (A 0))])) rfl (hb hby d2_1)
  refine own_go (B := T1.setTop (mkF m 4 #[.val (.ref (A 0))] [(.ref (A 14)), (.ref (A 0))])) st1 ?_
  refine own_go (B := T1.setTop (mkF m 7 #[.val (.ref (A 0))] [])) (fun _ k => Jvm.RoadKit.acmp (g := (mkF m 4 #[.val (.ref (A 0))] [(.ref (A 14)), (.ref (A 0))])) X1 hx rfl rfl rfl (pc0 := 4) (pc' := 7) (same := false) rfl (hb hby d2_4) rfl (decide_eq_false fun q => (own_ne F_MULTIPLY_precedence F_AND_precedence (by decide)) (Value.ref.inj q)) (by decide) (by decide) k) ?_
  refine own_go (B := T1.setTop (mkF m 8 #[.val (.ref (A 0))] [(.ref (A 0))])) (fun _ k => XS.aloadN X1.here hx rfl (hb hby d2_7) rfl rfl k) ?_
  obtain ⟨T2, X2, e2, st2⟩ := getS2 X1 hx hZ hown (host := "") (Or.inl (hw _ (List.mem_of_getElem? (i := 72) rfl))) Via.refl e1 (S_XOR.ext x0) (g := (mkF m 8 #[.val (.ref (A 0))] [(.ref (A 0))])) rfl (hb hby d2_8)
  refine own_go (B := T2.setTop (mkF m 11 #[.val (.ref (A 0))] [(.ref (A 15)), (.ref (A 0))])) st2 ?_
  refine own_go (B := T2.setTop (mkF m 14 #[.val (.ref (A 0))] [])) (fun _ k => Jvm.RoadKit.acmp (g := (mkF m 11 #[.val (.ref (A 0))] [(.ref (A 15)), (.ref (A 0))])) X2 hx rfl rfl rfl (pc0 := 11) (pc' := 14) (same := false) rfl (hb hby d2_11) rfl (decide_eq_false fun q => (own_ne F_MULTIPLY_precedence F_XOR_precedence (by decide)) (Value.ref.inj q)) (by decide) (by decide) k) ?_
  refine own_go (B := T2.setTop (mkF m 15 #[.val (.ref (A 0))] [(.ref (A 0))])) (fun _ k => XS.aloadN X2.here hx rfl (hb hby d2_14) rfl rfl k) ?_
  obtain ⟨T3, X3, e3, st3⟩ := getS2 X2 hx hZ hown (host := "") (Or.inl (hw _ (List.mem_of_getElem? (i := 73) rfl))) Via.refl e2 (S_OR.ext x0) (g := (mkF m 15 #[.val (.ref (A 0))] [(.ref (A 0))])) rfl (hb hby d2_15)
  refine own_go (B := T3.setTop (mkF m 18 #[.val (.ref (A 0))] [(.ref (A 16)), (.ref (A 0))])) st3 ?_
  refine own_go (B := T3.setTop (mkF m 25 #[.val (.ref (A 0))] [])) (fun _ k => Jvm.RoadKit.acmp (g := (mkF m 18 #[.val (.ref (A 0))] [(.ref (A 16)), (.ref (A 0))])) X3 hx rfl rfl rfl (pc0 := 18) (pc' := 25) (same := false) rfl (hb hby d2_18) rfl (decide_eq_false fun q => (own_ne F_MULTIPLY_precedence F_OR_precedence (by decide)) (Value.ref.inj q)) (by decide) (by decide) k) ?_
  refine own_go (B := T3.setTop (mkF m 26 #[.val (.ref (A 0))] [(.int (0 : Int32))])) (fun _ k => XT.iconstV X3.here hx rfl (0 : Int32) (hb hby d2_25) rfl k) ?_
  exact own_ret X3 hx (t := .boolean) hrt rfl (Or.inl ⟨rfl, by simp, _, rfl⟩) (hb hby d2_26) hlk ⟨rfl, N0, e3⟩ (by decide) (by decide)
set_option maxRecDepth 65536 in
set_option maxHeartbeats 40000000 in
theorem rm1_1 (l : Launch) (Z : State) (a0 : Array Value) (hw : ∀ d ∈ tables_1, d.before a0 Z = true) (ws : List Jvm.Cond)  (A : Nat → Addr) (hW : own_W Z A) (h0 : Heap) (x0 : Ext Z.heap h0)  :
    own_Met l Z (⟨"com/example/kilnbyte/kilnbyte/tree/Operator", "precedence", "()I"⟩ : MethodName) prog_214_method_5_code 1 (some .int) ws ({ frames := 0, cells := 0, slots := 0, locals := 0 } : Room) #[(.ref (A 1))] h0 (fun v_ h_ L_ => v_ = some (.int (10 : Int32)) ∧ Fr Z.heap.size L_ ∧ h_ = h0) := by
  refine own_body (plainFor_of_name pn_1) fun p e s m below meth c s₁ hx hby hml hown hnm hlk hrt hZ X0 e0 => ?_
  have N0 := Fr.nil Z.heap.size
  have F_DIVIDE_precedence := own_w_F_DIVIDE_precedence hW
  refine own_go (B := s₁.setTop (mkF m 0 #[.val (.ref (A 1))] [])) (fun t k => castTop (ef_1 m (A 1)) k) ?_
  refine own_go (B := s₁.setTop (mkF m 1 #[.val (.ref (A 1))] [(.ref (A 1))])) (fun _ k => XS.aloadN X0.here hx rfl (hb hby d1_0) rfl rfl k) ?_
  obtain ⟨T1, X1, e1, st1⟩ := getF X0 hx hZ hown (host := "") (Or.inl (hw _ (List.mem_of_getElem? (i := 64) rfl))) Via.refl e0 (F_DIVIDE_precedence.ext x0) (g := (mkF m 1 #[.val (.ref (A 1))] [(.ref (A 1))])) rfl rfl (hb hby d1_1)
  refine own_go (B := T1.setTop (mkF m 4 #[.val (.ref (A 1))] [(.int (10 : Int32))])) st1 ?_
  exact own_ret X1 hx (t := .int) hrt rfl (Or.inl ⟨rfl, by simp, _, rfl⟩) (hb hby d1_4) hlk ⟨rfl, N0, e1⟩ (by decide) (by decide)
set_option maxRecDepth 65536 in
set_option maxHeartbeats 40000000 in
theorem rm2_1 (l : Launch) (Z : State) (a0 : Array Value) (hw : ∀ d ∈ tables_1, d.before a0 Z = true) (ws : List Jvm.Cond)  (A : Nat → Addr) (hW : own_W Z A) (h0 : Heap) (x0 : Ext Z.heap h0)  :
    own_Met l Z (⟨"com/example/kilnbyte/kilnbyte/tree/Operator", "isBitwise", "()Z"⟩ : MethodName) prog_214_method_10_code 1 (some .boolean) ws ({ frames := 0, cells := 0, slots := 0, locals := 0 } : Room) #[(.ref (A 1))] h0 (fun v_ h_ L_ => v_ = some (.int (0 : Int32)) ∧ Fr Z.heap.size L_ ∧ h_ = h0) := by
  refine own_body (plainFor_of_name pn_1) fun p e s m below meth c s₁ hx hby hml hown hnm hlk hrt hZ X0 e0 => ?_
  have N0 := Fr.nil Z.heap.size
  have S_AND := own_w_S_AND hW
  have S_XOR := own_w_S_XOR hW
  have S_OR := own_w_S_OR hW
  have F_DIVIDE_precedence := own_w_F_DIVIDE_precedence hW
  have F_XOR_precedence := own_w_F_XOR_precedence hW
  have F_OR_precedence := own_w_F_OR_precedence hW
  have F_AND_precedence := own_w_F_AND_precedence hW
  refine own_go (B := s₁.setTop (mkF m 0 #[.val (.ref (A 1))] [])) (fun t k => castTop (ef_2 m (A 1)) k) ?_
  refine own_go (B := s₁.setTop (mkF m 1 #[.val (.ref (A 1))] [(.ref (A 1))])) (fun _ k => XS.aloadN X0.here hx rfl (hb hby d2_0) rfl rfl k) ?_
  obtain ⟨T1, X1, e1, st1⟩ := getS2 X0 hx hZ hown (host := "") (Or.inl (hw _ (List.mem_of_getElem? (i := 71) rfl))) Via.refl e0 (S_AND.ext x0) (g := (mkF m 1 #[.val (.ref (A 1))] [(.ref (A 1))])) rfl (hb hby d2_1)
  refine own_go (B := T1.setTop (mkF m 4 #[.val (.ref (A 1))] [(.ref (A 14)), (.ref (A 1))])) st1 ?_
  refine own_go (B := T1.setTop (mkF m 7 #[.val (.ref (A 1))] [])) (fun _ k => Jvm.RoadKit.acmp (g := (mkF m 4 #[.val (.ref (A 1))] [(.ref (A 14)), (.ref (A 1))])) X1 hx rfl rfl rfl (pc0 := 4) (pc' := 7) (same := false) rfl (hb hby d2_4) rfl (decide_eq_false fun q => (own_ne F_DIVIDE_precedence F_AND_precedence (by decide)) (Value.ref.inj q)) (by decide) (by decide) k) ?_
  refine own_go (B := T1.setTop (mkF m 8 #[.val (.ref (A 1))] [(.ref (A 1))])) (fun _ k => XS.aloadN X1.here hx rfl (hb hby d2_7) rfl rfl k) ?_
  obtain ⟨T2, X2, e2, st2⟩ := getS2 X1 hx hZ hown (host := "") (Or.inl (hw _ (List.mem_of_getElem? (i := 72) rfl))) Via.refl e1 (S_XOR.ext x0) (g := (mkF m 8 #[.val (.ref (A 1))] [(.ref (A 1))])) rfl (hb hby d2_8)
  refine own_go (B := T2.setTop (mkF m 11 #[.val (.ref (A 1))] [(.ref (A 15)), (.ref (A 1))])) st2 ?_
  refine own_go (B := T2.setTop (mkF m 14 #[.val (.ref (A 1))] [])) (fun _ k => Jvm.RoadKit.acmp (g := (mkF m 11 #[.val (.ref (A 1))] [(.ref (A 15)), (.ref (A 1))])) X2 hx rfl rfl rfl (pc0 := 11) (pc' := 14) (same := false) rfl (hb hby d2_11) rfl (decide_eq_false fun q => (own_ne F_DIVIDE_precedence F_XOR_precedence (by decide)) (Value.ref.inj q)) (by decide) (by decide) k) ?_
  refine own_go (B := T2.setTop (mkF m 15 #[.val (.ref (A 1))] [(.ref (A 1))])) (fun _ k => XS.aloadN X2.here hx rfl (hb hby d2_14) rfl rfl k) ?_
  obtain ⟨T3, X3, e3, st3⟩ := getS2 X2 hx hZ hown (host := "") (Or.inl (hw _ (List.mem_of_getElem? (i := 73) rfl))) Via.refl e2 (S_OR.ext x0) (g := (mkF m 15 #[.val (.ref (A 1))] [(.ref (A 1))])) rfl (hb hby d2_15)
  refine own_go (B := T3.setTop (mkF m 18 #[.val (.ref (A 1))] [(.ref (A 16)), (.ref (A 1))])) st3 ?_
  refine own_go (B := T3.setTop (mkF m 25 #[.val (.ref (A 1))] [])) (fun _ k => Jvm.RoadKit.acmp (g := (mkF m 18 #[.val (.ref (A 1))] [(.ref (A 16)), (.ref (A 1))])) X3 hx rfl rfl rfl (pc0 := 18) (pc' := 25) (same := false) rfl (hb hby d2_18) rfl (decide_eq_false fun q => (own_ne F_DIVIDE_precedence F_OR_precedence (by decide)) (Value.ref.inj q)) (by decide) (by decide) k) ?_
  refine own_go (B := T3.setTop (mkF m 26 #[.val (.ref (A 1))] [(.int (0 : Int32))])) (fun _ k => XT.iconstV X3.here hx rfl (0 : Int32) (hb hby d2_25) rfl k) ?_
  exact own_ret X3 hx (t := .boolean) hrt rfl (Or.inl ⟨rfl, by simp, _, rfl⟩) (hb hby d2_26) hlk ⟨rfl, N0, e3⟩ (by decide) (by decide)
set_option maxRecDepth 65536 in
set_option maxHeartbeats 40000000 in
theorem rm1_2 (l : Launch) (Z : State) (a0 : Array Value) (hw : ∀ d ∈ tables_1, d.before a0 Z = true) (ws : List Jvm.Cond)  (A : Nat → Addr) (hW : own_W Z A) (h0 : Heap) (x0 : Ext Z.heap h0)  :
    own_Met l Z (⟨"com/example/kilnbyte/kilnbyte/tree/Operator", "precedence", "()I"⟩ : MethodName) prog_214_method_5_code 1 (some .int) ws ({ frames := 0, cells := 0, slots := 0, locals := 0 } : Room) #[(.ref (A 2))] h0 (fun v_ h_ L_ => v_ = some (.int (10 : Int32)) ∧ Fr Z.heap.size L_ ∧ h_ = h0) := by
  refine own_body (plainFor_of_name pn_1) fun p e s m below meth c s₁ hx hby hml hown hnm hlk hrt hZ X0 e0 => ?_
  have N0 := Fr.nil Z.heap.size
  have F_REMAINDER_precedence := own_w_F_REMAINDER_precedence hW
  refine own_go (B := s₁.setTop (mkF m 0 #[.val (.ref (A 2))] [])) (fun t k => castTop (ef_1 m (A 2)) k) ?_
  refine own_go (B := s₁.setTop (mkF m 1 #[.val (.ref (A 2))] [(.ref (A 2))])) (fun _ k => XS.aloadN X0.here hx rfl (hb hby d1_0) rfl rfl k) ?_
  obtain ⟨T1, X1, e1, st1⟩ := getF X0 hx hZ hown (host := "") (Or.inl (hw _ (List.mem_of_getElem? (i := 64) rfl))) Via.refl e0 (F_REMAINDER_precedence.ext x0) (g := (mkF m 1 #[.val (.ref (A 2))] [(.ref (A 2))])) rfl rfl (hb hby d1_1)
  refine own_go (B := T1.setTop (mkF m 4 #[.val (.ref (A 2))] [(.int (10 : Int32))])) st1 ?_
  exact own_ret X1 hx (t := .int) hrt rfl (Or.inl ⟨rfl, by simp, _, rfl⟩) (hb hby d1_4) hlk ⟨rfl, N0, e1⟩ (by decide) (by decide)
set_option maxRecDepth 65536 in
set_option maxHeartbeats 40000000 in
theorem rm2_2 (l : Launch) (Z : State) (a0 : Array Value) (hw : ∀ d ∈ tables_1, d.before a0 Z = true) (ws : List Jvm.Cond)  (A : Nat → Addr) (hW : own_W Z A) (h0 : Heap) (x0 : Ext Z.heap h0)  :
    own_Met l Z (⟨"com/example/kilnbyte/kilnbyte/tree/Operator", "isBitwise", "()Z"⟩ : MethodName) prog_214_method_10_code 1 (some .boolean) ws ({ frames := 0, cells := 0, slots := 0, locals := 0 } : Room) #[(.ref (A 2))] h0 (fun v_ h_ L_ => v_ = some (.int (0 : Int32)) ∧ Fr Z.heap.size L_ ∧ h_ = h0) := by
  refine own_body (plainFor_of_name pn_1) fun p e s m below meth c s₁ hx hby hml hown hnm hlk hrt hZ X0 e0 => ?_
  have N0 := Fr.nil Z.heap.size
  have S_AND := own_w_S_AND hW
  have S_XOR := own_w_S_XOR hW
  have S_OR := own_w_S_OR hW
  have F_REMAINDER_precedence := own_w_F_REMAINDER_precedence hW
  have F_XOR_precedence := own_w_F_XOR_precedence hW
  have F_OR_precedence := own_w_F_OR_precedence hW
  have F_AND_precedence := own_w_F_AND_precedence hW
  refine own_go (B := s₁.setTop (mkF m 0 #[.val (.ref (A 2))] [])) (fun t k => castTop (ef_2 m (A 2)) k) ?_
  refine own_go (B := s₁.setTop (mkF m 1 #[.val (.ref (A 2))] [(.ref (A 2))])) (fun _ k => XS.aloadN X0.here hx rfl (hb hby d2_0) rfl rfl k) ?_
  obtain ⟨T1, X1, e1, st1⟩ := getS2 X0 hx hZ hown (host := "") (Or.inl (hw _ (List.mem_of_getElem? (i := 71) rfl))) Via.refl e0 (S_AND.ext x0) (g := (mkF m 1 #[.val (.ref (A 2))] [(.ref (A 2))])) rfl (hb hby d2_1)
  refine own_go (B := T1.setTop (mkF m 4 #[.val (.ref (A 2))] [(.ref (A 14)), (.ref (A 2))])) st1 ?_
  refine own_go (B := T1.setTop (mkF m 7 #[.val (.ref (A 2))] [])) (fun _ k => Jvm.RoadKit.acmp (g := (mkF m 4 #[.val (.ref (A 2))] [(.ref (A 14)), (.ref (A 2))])) X1 hx rfl rfl rfl (pc0 := 4) (pc' := 7) (same := false) rfl (hb hby d2_4) rfl (decide_eq_false fun q => (own_ne F_REMAINDER_precedence F_AND_precedence (by decide)) (Value.ref.inj q)) (by decide) (by decide) k) ?_
  refine own_go (B := T1.setTop (mkF m 8 #[.val (.ref (A 2))] [(.ref (A 2))])) (fun _ k => XS.aloadN X1.here hx rfl (hb hby d2_7) rfl rfl k) ?_
  obtain ⟨T2, X2, e2, st2⟩ := getS2 X1 hx hZ hown (host := "") (Or.inl (hw _ (List.mem_of_getElem? (i := 72) rfl))) Via.refl e1 (S_XOR.ext x0) (g := (mkF m 8 #[.val (.ref (A 2))] [(.ref (A 2))])) rfl (hb hby d2_8)
  refine own_go (B := T2.setTop (mkF m 11 #[.val (.ref (A 2))] [(.ref (A 15)), (.ref (A 2))])) st2 ?_
  refine own_go (B := T2.setTop (mkF m 14 #[.val (.ref (A 2))] [])) (fun _ k => Jvm.RoadKit.acmp (g := (mkF m 11 #[.val (.ref (A 2))] [(.ref (A 15)), (.ref (A 2))])) X2 hx rfl rfl rfl (pc0 := 11) (pc' := 14) (same := false) rfl (hb hby d2_11) rfl (decide_eq_false fun q => (own_ne F_REMAINDER_precedence F_XOR_precedence (by decide)) (Value.ref.inj q)) (by decide) (by decide) k) ?_
  refine own_go (B := T2.setTop (mkF m 15 #[.val (.ref (A 2))] [(.ref (A 2))])) (fun _ k => XS.aloadN X2.here hx rfl (hb hby d2_14) rfl rfl k) ?_
  obtain ⟨T3, X3, e3, st3⟩ := getS2 X2 hx hZ hown (host := "") (Or.inl (hw _ (List.mem_of_getElem? (i := 73) rfl))) Via.refl e2 (S_OR.ext x0) (g := (mkF m 15 #[.val (.ref (A 2))] [(.ref (A 2))])) rfl (hb hby d2_15)
  refine own_go (B := T3.setTop (mkF m 18 #[.val (.ref (A 2))] [(.ref (A 16)), (.ref (A 2))])) st3 ?_
  refine own_go (B := T3.setTop (mkF m 25 #[.val (.ref (A 2))] [])) (fun _ k => Jvm.RoadKit.acmp (g := (mkF m 18 #[.val (.ref (A 2))] [(.ref (A 16)), (.ref (A 2))])) X3 hx rfl rfl rfl (pc0 := 18) (pc' := 25) (same := false) rfl (hb hby d2_18) rfl (decide_eq_false fun q => (own_ne F_REMAINDER_precedence F_OR_precedence (by decide)) (Value.ref.inj q)) (by decide) (by decide) k) ?_
  refine own_go (B := T3.setTop (mkF m 26 #[.val (.ref (A 2))] [(.int (0 : Int32))])) (fun _ k => XT.iconstV X3.here hx rfl (0 : Int32) (hb hby d2_25) rfl k) ?_
  exact own_ret X3 hx (t := .boolean) hrt rfl (Or.inl ⟨rfl, by simp, _, rfl⟩) (hb hby d2_26) hlk ⟨rfl, N0, e3⟩ (by decide) (by decide)
set_option maxRecDepth 65536 in
set_option maxHeartbeats 40000000 in
theorem rm1_3 (l : Launch) (Z : State) (a0 : Array Value) (hw : ∀ d ∈ tables_1, d.before a0 Z = true) (ws : List Jvm.Cond)  (A : Nat → Addr) (hW : own_W Z A) (h0 : Heap) (x0 : Ext Z.heap h0)  :
    own_Met l Z (⟨"com/example/kilnbyte/kilnbyte/tree/Operator", "precedence", "()I"⟩ : MethodName) prog_214_method_5_code 1 (some .int) ws ({ frames := 0, cells := 0, slots := 0, locals := 0 } : Room) #[(.ref (A 3))] h0 (fun v_ h_ L_ => v_ = some (.int (9 : Int32)) ∧ Fr Z.heap.size L_ ∧ h_ = h0) := by
  refine own_body (plainFor_of_name pn_1) fun p e s m below meth c s₁ hx hby hml hown hnm hlk hrt hZ X0 e0 => ?_
  have N0 := Fr.nil Z.heap.size
  have F_ADD_precedence := own_w_F_ADD_precedence hW
  refine own_go (B := s₁.setTop (mkF m 0 #[.val (.ref (A 3))] [])) (fun t k => castTop (ef_1 m (A 3)) k) ?_
  refine own_go (B := s₁.setTop (mkF m 1 #[.val (.ref (A 3))] [(.ref (A 3))])) (fun _ k => XS.aloadN X0.here hx rfl (hb hby d1_0) rfl rfl k) ?_
  obtain ⟨T1, X1, e1, st1⟩ := getF X0 hx hZ hown (host := "") (Or.inl (hw _ (List.mem_of_getElem? (i := 64) rfl))) Via.refl e0 (F_ADD_precedence.ext x0) (g := (mkF m 1 #[.val (.ref (A 3))] [(.ref (A 3))])) rfl rfl (hb hby d1_1)
  refine own_go (B := T1.setTop (mkF m 4 #[.val (.ref (A 3))] [(.int (9 : Int32))])) st1 ?_
  exact own_ret X1 hx (t := .int) hrt rfl (Or.inl ⟨rfl, by simp, _, rfl⟩) (hb hby d1_4) hlk ⟨rfl, N0, e1⟩ (by decide) (by decide)
set_option maxRecDepth 65536 in
set_option maxHeartbeats 40000000 in
theorem rm2_3 (l : Launch) (Z : State) (a0 : Array Value) (hw : ∀ d ∈ tables_1, d.before a0 Z = true) (ws : List Jvm.Cond)  (A : Nat → Addr) (hW : own_W Z A) (h0 : Heap) (x0 : Ext Z.heap h0)  :
    own_Met l Z (⟨"com/example/kilnbyte/kilnbyte/tree/Operator", "isBitwise", "()Z"⟩ : MethodName) prog_214_method_10_code 1 (some .boolean) ws ({ frames := 0, cells := 0, slots := 0, locals := 0 } : Room) #[(.ref (A 3))] h0 (fun v_ h_ L_ => v_ = some (.int (0 : Int32)) ∧ Fr Z.heap.size L_ ∧ h_ = h0) := by
  refine own_body (plainFor_of_name pn_1) fun p e s m below meth c s₁ hx hby hml hown hnm hlk hrt hZ X0 e0 => ?_
  have N0 := Fr.nil Z.heap.size
  have S_AND := own_w_S_AND hW
  have S_XOR := own_w_S_XOR hW
  have S_OR := own_w_S_OR hW
  have F_ADD_precedence := own_w_F_ADD_precedence hW
  have F_XOR_precedence := own_w_F_XOR_precedence hW
  have F_OR_precedence := own_w_F_OR_precedence hW
  have F_AND_precedence := own_w_F_AND_precedence hW
  refine own_go (B := s₁.setTop (mkF m 0 #[.val (.ref (A 3))] [])) (fun t k => castTop (ef_2 m (A 3)) k) ?_
  refine own_go (B := s₁.setTop (mkF m 1 #[.val (.ref (A 3))] [(.ref (A 3))])) (fun _ k => XS.aloadN X0.here hx rfl (hb hby d2_0) rfl rfl k) ?_
  obtain ⟨T1, X1, e1, st1⟩ := getS2 X0 hx hZ hown (host := "") (Or.inl (hw _ (List.mem_of_getElem? (i := 71) rfl))) Via.refl e0 (S_AND.ext x0) (g := (mkF m 1 #[.val (.ref (A 3))] [(.ref (A 3))])) rfl (hb hby d2_1)
  refine own_go (B := T1.setTop (mkF m 4 #[.val (.ref (A 3))] [(.ref (A 14)), (.ref (A 3))])) st1 ?_
  refine own_go (B := T1.setTop (mkF m 7 #[.val (.ref (A 3))] [])) (fun _ k => Jvm.RoadKit.acmp (g := (mkF m 4 #[.val (.ref (A 3))] [(.ref (A 14)), (.ref (A 3))])) X1 hx rfl rfl rfl (pc0 := 4) (pc' := 7) (same := false) rfl (hb hby d2_4) rfl (decide_eq_false fun q => (own_ne F_ADD_precedence F_AND_precedence (by decide)) (Value.ref.inj q)) (by decide) (by decide) k) ?_
  refine own_go (B := T1.setTop (mkF m 8 #[.val (.ref (A 3))] [(.ref (A 3))])) (fun _ k => XS.aloadN X1.here hx rfl (hb hby d2_7) rfl rfl k) ?_
  obtain ⟨T2, X2, e2, st2⟩ := getS2 X1 hx hZ hown (host := "") (Or.inl (hw _ (List.mem_of_getElem? (i := 72) rfl))) Via.refl e1 (S_XOR.ext x0) (g := (mkF m 8 #[.val (.ref (A 3))] [(.ref (A 3))])) rfl (hb hby d2_8)
  refine own_go (B := T2.setTop (mkF m 11 #[.val (.ref (A 3))] [(.ref (A 15)), (.ref (A 3))])) st2 ?_
  refine own_go (B := T2.setTop (mkF m 14 #[.val (.ref (A 3))] [])) (fun _ k => Jvm.RoadKit.acmp (g := (mkF m 11 #[.val (.ref (A 3))] [(.ref (A 15)), (.ref (A 3))])) X2 hx rfl rfl rfl (pc0 := 11) (pc' := 14) (same := false) rfl (hb hby d2_11) rfl (decide_eq_false fun q => (own_ne F_ADD_precedence F_XOR_precedence (by decide)) (Value.ref.inj q)) (by decide) (by decide) k) ?_
  refine own_go (B := T2.setTop (mkF m 15 #[.val (.ref (A 3))] [(.ref (A 3))])) (fun _ k => XS.aloadN X2.here hx rfl (hb hby d2_14) rfl rfl k) ?_
  obtain ⟨T3, X3, e3, st3⟩ := getS2 X2 hx hZ hown (host := "") (Or.inl (hw _ (List.mem_of_getElem? (i := 73) rfl))) Via.refl e2 (S_OR.ext x0) (g := (mkF m 15 #[.val (.ref (A 3))] [(.ref (A 3))])) rfl (hb hby d2_15)
  refine own_go (B := T3.setTop (mkF m 18 #[.val (.ref (A 3))] [(.ref (A 16)), (.ref (A 3))])) st3 ?_
  refine own_go (B := T3.setTop (mkF m 25 #[.val (.ref (A 3))] [])) (fun _ k => Jvm.RoadKit.acmp (g := (mkF m 18 #[.val (.ref (A 3))] [(.ref (A 16)), (.ref (A 3))])) X3 hx rfl rfl rfl (pc0 := 18) (pc' := 25) (same := false) rfl (hb hby d2_18) rfl (decide_eq_false fun q => (own_ne F_ADD_precedence F_OR_precedence (by decide)) (Value.ref.inj q)) (by decide) (by decide) k) ?_
  refine own_go (B := T3.setTop (mkF m 26 #[.val (.ref (A 3))] [(.int (0 : Int32))])) (fun _ k => XT.iconstV X3.here hx rfl (0 : Int32) (hb hby d2_25) rfl k) ?_
  exact own_ret X3 hx (t := .boolean) hrt rfl (Or.inl ⟨rfl, by simp, _, rfl⟩) (hb hby d2_26) hlk ⟨rfl, N0, e3⟩ (by decide) (by decide)
set_option maxRecDepth 65536 in
set_option maxHeartbeats 40000000 in
theorem rm1_4 (l : Launch) (Z : State) (a0 : Array Value) (hw : ∀ d ∈ tables_1, d.before a0 Z = true) (ws : List Jvm.Cond)  (A : Nat → Addr) (hW : own_W Z A) (h0 : Heap) (x0 : Ext Z.heap h0)  :
    own_Met l Z (⟨"com/example/kilnbyte/kilnbyte/tree/Operator", "precedence", "()I"⟩ : MethodName) prog_214_method_5_code 1 (some .int) ws ({ frames := 0, cells := 0, slots := 0, locals := 0 } : Room) #[(.ref (A 4))] h0 (fun v_ h_ L_ => v_ = some (.int (9 : Int32)) ∧ Fr Z.heap.size L_ ∧ h_ = h0) := by
  refine own_body (plainFor_of_name pn_1) fun p e s m below meth c s₁ hx hby hml hown hnm hlk hrt hZ X0 e0 => ?_
  have N0 := Fr.nil Z.heap.size
  have F_SUBTRACT_precedence := own_w_F_SUBTRACT_precedence hW
  refine own_go (B := s₁.setTop (mkF m 0 #[.val (.ref (A 4))] [])) (fun t k => castTop (ef_1 m (A 4)) k) ?_
  refine own_go (B := s₁.setTop (mkF m 1 #[.val (.ref (A 4))] [(.ref (A 4))])) (fun _ k => XS.aloadN X0.here hx rfl (hb hby d1_0) rfl rfl k) ?_
  obtain ⟨T1, X1, e1, st1⟩ := getF X0 hx hZ hown (host := "") (Or.inl (hw _ (List.mem_of_getElem? (i := 64) rfl))) Via.refl e0 (F_SUBTRACT_precedence.ext x0) (g := (mkF m 1 #[.val (.ref (A 4))] [(.ref (A 4))])) rfl rfl (hb hby d1_1)
  refine own_go (B := T1.setTop (mkF m 4 #[.val (.ref (A 4))] [(.int (9 : Int32))])) st1 ?_
  exact own_ret X1 hx (t := .int) hrt rfl (Or.inl ⟨rfl, by simp, _, rfl⟩) (hb hby d1_4) hlk ⟨rfl, N0, e1⟩ (by decide) (by decide)
set_option maxRecDepth 65536 in
set_option maxHeartbeats 40000000 in
theorem rm2_4 (l : Launch) (Z : State) (a0 : Array Value) (hw : ∀ d ∈ tables_1, d.before a0 Z = true) (ws : List Jvm.Cond)  (A : Nat → Addr) (hW : own_W Z A) (h0 : Heap) (x0 : Ext Z.heap h0)  :
    own_Met l Z (⟨"com/example/kilnbyte/kilnbyte/tree/Operator", "isBitwise", "()Z"⟩ : MethodName) prog_214_method_10_code 1 (some .boolean) ws ({ frames := 0, cells := 0, slots := 0, locals := 0 } : Room) #[(.ref (A 4))] h0 (fun v_ h_ L_ => v_ = some (.int (0 : Int32)) ∧ Fr Z.heap.size L_ ∧ h_ = h0) := by
  refine own_body (plainFor_of_name pn_1) fun p e s m below meth c s₁ hx hby hml hown hnm hlk hrt hZ X0 e0 => ?_
  have N0 := Fr.nil Z.heap.size
  have S_AND := own_w_S_AND hW
  have S_XOR := own_w_S_XOR hW
  have S_OR := own_w_S_OR hW
  have F_XOR_precedence := own_w_F_XOR_precedence hW
  have F_SUBTRACT_precedence := own_w_F_SUBTRACT_precedence hW
  have F_OR_precedence := own_w_F_OR_precedence hW
  have F_AND_precedence := own_w_F_AND_precedence hW
  refine own_go (B := s₁.setTop (mkF m 0 #[.val (.ref (A 4))] [])) (fun t k => castTop (ef_2 m (A 4)) k) ?_
  refine own_go (B := s₁.setTop (mkF m 1 #[.val (.ref (A 4))] [(.ref (A 4))])) (fun _ k => XS.aloadN X0.here hx rfl (hb hby d2_0) rfl rfl k) ?_
  obtain ⟨T1, X1, e1, st1⟩ := getS2 X0 hx hZ hown (host := "") (Or.inl (hw _ (List.mem_of_getElem? (i := 71) rfl))) Via.refl e0 (S_AND.ext x0) (g := (mkF m 1 #[.val (.ref (A 4))] [(.ref (A 4))])) rfl (hb hby d2_1)
  refine own_go (B := T1.setTop (mkF m 4 #[.val (.ref (A 4))] [(.ref (A 14)), (.ref (A 4))])) st1 ?_
  refine own_go (B := T1.setTop (mkF m 7 #[.val (.ref (A 4))] [])) (fun _ k => Jvm.RoadKit.acmp (g := (mkF m 4 #[.val (.ref (A 4))] [(.ref (A 14)), (.ref (A 4))])) X1 hx rfl rfl rfl (pc0 := 4) (pc' := 7) (same := false) rfl (hb hby d2_4) rfl (decide_eq_false fun q => (own_ne F_SUBTRACT_precedence F_AND_precedence (by decide)) (Value.ref.inj q)) (by decide) (by decide) k) ?_
  refine own_go (B := T1.setTop (mkF m 8 #[.val (.ref (A 4))] [(.ref (A 4))])) (fun _ k => XS.aloadN X1.here hx rfl (hb hby d2_7) rfl rfl k) ?_
  obtain ⟨T2, X2, e2, st2⟩ := getS2 X1 hx hZ hown (host := "") (Or.inl (hw _ (List.mem_of_getElem? (i := 72) rfl))) Via.refl e1 (S_XOR.ext x0) (g := (mkF m 8 #[.val (.ref (A 4))] [(.ref (A 4))])) rfl (hb hby d2_8)
  refine own_go (B := T2.setTop (mkF m 11 #[.val (.ref (A 4))] [(.ref (A 15)), (.ref (A 4))])) st2 ?_
  refine own_go (B := T2.setTop (mkF m 14 #[.val (.ref (A 4))] [])) (fun _ k => Jvm.RoadKit.acmp (g := (mkF m 11 #[.val (.ref (A 4))] [(.ref (A 15)), (.ref (A 4))])) X2 hx rfl rfl rfl (pc0 := 11) (pc' := 14) (same := false) rfl (hb hby d2_11) rfl (decide_eq_false fun q => (own_ne F_SUBTRACT_precedence F_XOR_precedence (by decide)) (Value.ref.inj q)) (by decide) (by decide) k) ?_
  refine own_go (B := T2.setTop (mkF m 15 #[.val (.ref (A 4))] [(.ref (A 4))])) (fun _ k => XS.aloadN X2.here hx rfl (hb hby d2_14) rfl rfl k) ?_
  obtain ⟨T3, X3, e3, st3⟩ := getS2 X2 hx hZ hown (host := "") (Or.inl (hw _ (List.mem_of_getElem? (i := 73) rfl))) Via.refl e2 (S_OR.ext x0) (g := (mkF m 15 #[.val (.ref (A 4))] [(.ref (A 4))])) rfl (hb hby d2_15)
  refine own_go (B := T3.setTop (mkF m 18 #[.val (.ref (A 4))] [(.ref (A 16)), (.ref (A 4))])) st3 ?_
  refine own_go (B := T3.setTop (mkF m 25 #[.val (.ref (A 4))] [])) (fun _ k => Jvm.RoadKit.acmp (g := (mkF m 18 #[.val (.ref (A 4))] [(.ref (A 16)), (.ref (A 4))])) X3 hx rfl rfl rfl (pc0 := 18) (pc' := 25) (same := false) rfl (hb hby d2_18) rfl (decide_eq_false fun q => (own_ne F_SUBTRACT_precedence F_OR_precedence (by decide)) (Value.ref.inj q)) (by decide) (by decide) k) ?_
  refine own_go (B := T3.setTop (mkF m 26 #[.val (.ref (A 4))] [(.int (0 : Int32))])) (fun _ k => XT.iconstV X3.here hx rfl (0 : Int32) (hb hby d2_25) rfl k) ?_
  exact own_ret X3 hx (t := .boolean) hrt rfl (Or.inl ⟨rfl, by simp, _, rfl⟩) (hb hby d2_26) hlk ⟨rfl, N0, e3⟩ (by decide) (by decide)
set_option maxRecDepth 65536 in
set_option maxHeartbeats 40000000 in
theorem rm1_5 (l : Launch) (Z : State) (a0 : Array Value) (hw : ∀ d ∈ tables_1, d.before a0 Z = true) (ws : List Jvm.Cond)  (A : Nat → Addr) (hW : own_W Z A) (h0 : Heap) (x0 : Ext Z.heap h0)  :
    own_Met l Z (⟨"com/example/kilnbyte/kilnbyte/tree/Operator", "precedence", "()I"⟩ : MethodName) prog_214_method_5_code 1 (some .int) ws ({ frames := 0, cells := 0, slots := 0, locals := 0 } : Room) #[(.ref (A 5))] h0 (fun v_ h_ L_ => v_ = some (.int (8 : Int32)) ∧ Fr Z.heap.size L_ ∧ h_ = h0) := by
  refine own_body (plainFor_of_name pn_1) fun p e s m below meth c s₁ hx hby hml hown hnm hlk hrt hZ X0 e0 => ?_
  have N0 := Fr.nil Z.heap.size
  have F_SHIFT_LEFT_precedence := own_w_F_SHIFT_LEFT_precedence hW
  refine own_go (B := s₁.setTop (mkF m 0 #[.val (.ref (A 5))] [])) (fun t k => castTop (ef_1 m (A 5)) k) ?_
  refine own_go (B := s₁.setTop (mkF m 1 #[.val (.ref (A 5))] [(.ref (A 5))])) (fun _ k => XS.aloadN X0.here hx rfl (hb hby d1_0) rfl rfl k) ?_
  obtain ⟨T1, X1, e1, st1⟩ := getF X0 hx hZ hown (host := "") (Or.inl (hw _ (List.mem_of_getElem? (i := 64) rfl))) Via.refl e0 (F_SHIFT_LEFT_precedence.ext x0) (g := (mkF m 1 #[.val (.ref (A 5))] [(.ref (A 5))])) rfl rfl (hb hby d1_1)
  refine own_go (B := T1.setTop (mkF m 4 #[.val (.ref (A 5))] [(.int (8 : Int32))])) st1 ?_
  exact own_ret X1 hx (t := .int) hrt rfl (Or.inl ⟨rfl, by simp, _, rfl⟩) (hb hby d1_4) hlk ⟨rfl, N0, e1⟩ (by decide) (by decide)
set_option maxRecDepth 65536 in
set_option maxHeartbeats 40000000 in
theorem rm2_5 (l : Launch) (Z : State) (a0 : Array Value) (hw : ∀ d ∈ tables_1, d.before a0 Z = true) (ws : List Jvm.Cond)  (A : Nat → Addr) (hW : own_W Z A) (h0 : Heap) (x0 : Ext Z.heap h0)  :
    own_Met l Z (⟨"com/example/kilnbyte/kilnbyte/tree/Operator", "isBitwise", "()Z"⟩ : MethodName) prog_214_method_10_code 1 (some .boolean) ws ({ frames := 0, cells := 0, slots := 0, locals := 0 } : Room) #[(.ref (A 5))] h0 (fun v_ h_ L_ => v_ = some (.int (0 : Int32)) ∧ Fr Z.heap.size L_ ∧ h_ = h0) := by
  refine own_body (plainFor_of_name pn_1) fun p e s m below meth c s₁ hx hby hml hown hnm hlk hrt hZ X0 e0 => ?_
  have N0 := Fr.nil Z.heap.size
  have S_AND := own_w_S_AND hW
  have S_XOR := own_w_S_XOR hW
  have S_OR := own_w_S_OR hW
  have F_XOR_precedence := own_w_F_XOR_precedence hW
  have F_OR_precedence := own_w_F_OR_precedence hW
  have F_AND_precedence := own_w_F_AND_precedence hW
  have F_SHIFT_LEFT_precedence := own_w_F_SHIFT_LEFT_precedence hW
  refine own_go (B := s₁.setTop (mkF m 0 #[.val (.ref (A 5))] [])) (fun t k => castTop (ef_2 m (A 5)) k) ?_
  refine own_go (B := s₁.setTop (mkF m 1 #[.val (.ref (A 5))] [(.ref (A 5))])) (fun _ k => XS.aloadN X0.here hx rfl (hb hby d2_0) rfl rfl k) ?_
  obtain ⟨T1, X1, e1, st1⟩ := getS2 X0 hx hZ hown (host := "") (Or.inl (hw _ (List.mem_of_getElem? (i := 71) rfl))) Via.refl e0 (S_AND.ext x0) (g := (mkF m 1 #[.val (.ref (A 5))] [(.ref (A 5))])) rfl (hb hby d2_1)
  refine own_go (B := T1.setTop (mkF m 4 #[.val (.ref (A 5))] [(.ref (A 14)), (.ref (A 5))])) st1 ?_
  refine own_go (B := T1.setTop (mkF m 7 #[.val (.ref (A 5))] [])) (fun _ k => Jvm.RoadKit.acmp (g := (mkF m 4 #[.val (.ref (A 5))] [(.ref (A 14)), (.ref (A 5))])) X1 hx rfl rfl rfl (pc0 := 4) (pc' := 7) (same := false) rfl (hb hby d2_4) rfl (decide_eq_false fun q => (own_ne F_SHIFT_LEFT_precedence F_AND_precedence (by decide)) (Value.ref.inj q)) (by decide) (by decide) k) ?_
  refine own_go (B := T1.setTop (mkF m 8 #[.val (.ref (A 5))] [(.ref (A 5))])) (fun _ k => XS.aloadN X1.here hx rfl (hb hby d2_7) rfl rfl k) ?_
  obtain ⟨T2, X2, e2, st2⟩ := getS2 X1 hx hZ hown (host := "") (Or.inl (hw _ (List.mem_of_getElem? (i := 72) rfl))) Via.refl e1 (S_XOR.ext x0) (g := (mkF m 8 #[.val (.ref (A 5))] [(.ref (A 5))])) rfl (hb hby d2_8)
  refine own_go (B := T2.setTop (mkF m 11 #[.val (.ref (A 5))] [(.ref (A 15)), (.ref (A 5))])) st2 ?_
  refine own_go (B := T2.setTop (mkF m 14 #[.val (.ref (A 5))] [])) (fun _ k => Jvm.RoadKit.acmp (g := (mkF m 11 #[.val (.ref (A 5))] [(.ref (A 15)), (.ref (A 5))])) X2 hx rfl rfl rfl (pc0 := 11) (pc' := 14) (same := false) rfl (hb hby d2_11) rfl (decide_eq_false fun q => (own_ne F_SHIFT_LEFT_precedence F_XOR_precedence (by decide)) (Value.ref.inj q)) (by decide) (by decide) k) ?_
  refine own_go (B := T2.setTop (mkF m 15 #[.val (.ref (A 5))] [(.ref (A 5))])) (fun _ k => XS.aloadN X2.here hx rfl (hb hby d2_14) rfl rfl k) ?_
  obtain ⟨T3, X3, e3, st3⟩ := getS2 X2 hx hZ hown (host := "") (Or.inl (hw _ (List.mem_of_getElem? (i := 73) rfl))) Via.refl e2 (S_OR.ext x0) (g := (mkF m 15 #[.val (.ref (A 5))] [(.ref (A 5))])) rfl (hb hby d2_15)
  refine own_go (B := T3.setTop (mkF m 18 #[.val (.ref (A 5))] [(.ref (A 16)), (.ref (A 5))])) st3 ?_
  refine own_go (B := T3.setTop (mkF m 25 #[.val (.ref (A 5))] [])) (fun _ k => Jvm.RoadKit.acmp (g := (mkF m 18 #[.val (.ref (A 5))] [(.ref (A 16)), (.ref (A 5))])) X3 hx rfl rfl rfl (pc0 := 18) (pc' := 25) (same := false) rfl (hb hby d2_18) rfl (decide_eq_false fun q => (own_ne F_SHIFT_LEFT_precedence F_OR_precedence (by decide)) (Value.ref.inj q)) (by decide) (by decide) k) ?_
  refine own_go (B := T3.setTop (mkF m 26 #[.val (.ref (A 5))] [(.int (0 : Int32))])) (fun _ k => XT.iconstV X3.here hx rfl (0 : Int32) (hb hby d2_25) rfl k) ?_
  exact own_ret X3 hx (t := .boolean) hrt rfl (Or.inl ⟨rfl, by simp, _, rfl⟩) (hb hby d2_26) hlk ⟨rfl, N0, e3⟩ (by decide) (by decide)
set_option maxRecDepth 65536 in
set_option maxHeartbeats 40000000 in
theorem rm1_6 (l : Launch) (Z : State) (a0 : Array Value) (hw : ∀ d ∈ tables_1, d.before a0 Z = true) (ws : List Jvm.Cond)  (A : Nat → Addr) (hW : own_W Z A) (h0 : Heap) (x0 : Ext Z.heap h0)  :
    own_Met l Z (⟨"com/example/kilnbyte/kilnbyte/tree/Operator", "precedence", "()I"⟩ : MethodName) prog_214_method_5_code 1 (some .int) ws ({ frames := 0, cells := 0, slots := 0, locals := 0 } : Room) #[(.ref (A 6))] h0 (fun v_ h_ L_ => v_ = some (.int (8 : Int32)) ∧ Fr Z.heap.size L_ ∧ h_ = h0) := by
  refine own_body (plainFor_of_name pn_1) fun p e s m below meth c s₁ hx hby hml hown hnm hlk hrt hZ X0 e0 => ?_
  have N0 := Fr.nil Z.heap.size
  have F_SHIFT_RIGHT_precedence := own_w_F_SHIFT_RIGHT_precedence hW
  refine own_go (B := s₁.setTop (mkF m 0 #[.val (.ref (A 6))] [])) (fun t k => castTop (ef_1 m (A 6)) k) ?_
  refine own_go (B := s₁.setTop (mkF m 1 #[.val (.ref (A 6))] [(.ref (A 6))])) (fun _ k => XS.aloadN X0.here hx rfl (hb hby d1_0) rfl rfl k) ?_
  obtain ⟨T1, X1, e1, st1⟩ := getF X0 hx hZ hown (host := "") (Or.inl (hw _ (List.mem_of_getElem? (i := 64) rfl))) Via.refl e0 (F_SHIFT_RIGHT_precedence.ext x0) (g := (mkF m 1 #[.val (.ref (A 6))] [(.ref (A 6))])) rfl rfl (hb hby d1_1)
  refine own_go (B := T1.setTop (mkF m 4 #[.val (.ref (A 6))] [(.int (8 : Int32))])) st1 ?_
  exact own_ret X1 hx (t := .int) hrt rfl (Or.inl ⟨rfl, by simp, _, rfl⟩) (hb hby d1_4) hlk ⟨rfl, N0, e1⟩ (by decide) (by decide)
set_option maxRecDepth 65536 in
set_option maxHeartbeats 40000000 in
theorem rm2_6 (l : Launch) (Z : State) (a0 : Array Value) (hw : ∀ d ∈ tables_1, d.before a0 Z = true) (ws : List Jvm.Cond)  (A : Nat → Addr) (hW : own_W Z A) (h0 : Heap) (x0 : Ext Z.heap h0)  :
    own_Met l Z (⟨"com/example/kilnbyte/kilnbyte/tree/Operator", "isBitwise", "()Z"⟩ : MethodName) prog_214_method_10_code 1 (some .boolean) ws ({ frames := 0, cells := 0, slots := 0, locals := 0 } : Room) #[(.ref (A 6))] h0 (fun v_ h_ L_ => v_ = some (.int (0 : Int32)) ∧ Fr Z.heap.size L_ ∧ h_ = h0) := by
  refine own_body (plainFor_of_name pn_1) fun p e s m below meth c s₁ hx hby hml hown hnm hlk hrt hZ X0 e0 => ?_
  have N0 := Fr.nil Z.heap.size
  have S_AND := own_w_S_AND hW
  have S_XOR := own_w_S_XOR hW
  have S_OR := own_w_S_OR hW
  have F_XOR_precedence := own_w_F_XOR_precedence hW
  have F_OR_precedence := own_w_F_OR_precedence hW
  have F_SHIFT_RIGHT_precedence := own_w_F_SHIFT_RIGHT_precedence hW
  have F_AND_precedence := own_w_F_AND_precedence hW
  refine own_go (B := s₁.setTop (mkF m 0 #[.val (.ref (A 6))] [])) (fun t k => castTop (ef_2 m (A 6)) k) ?_
  refine own_go (B := s₁.setTop (mkF m 1 #[.val (.ref (A 6))] [(.ref (A 6))])) (fun _ k => XS.aloadN X0.here hx rfl (hb hby d2_0) rfl rfl k) ?_
  obtain ⟨T1, X1, e1, st1⟩ := getS2 X0 hx hZ hown (host := "") (Or.inl (hw _ (List.mem_of_getElem? (i := 71) rfl))) Via.refl e0 (S_AND.ext x0) (g := (mkF m 1 #[.val (.ref (A 6))] [(.ref (A 6))])) rfl (hb hby d2_1)
  refine own_go (B := T1.setTop (mkF m 4 #[.val (.ref (A 6))] [(.ref (A 14)), (.ref (A 6))])) st1 ?_
  refine own_go (B := T1.setTop (mkF m 7 #[.val (.ref (A 6))] [])) (fun _ k => Jvm.RoadKit.acmp (g := (mkF m 4 #[.val (.ref (A 6))] [(.ref (A 14)), (.ref (A 6))])) X1 hx rfl rfl rfl (pc0 := 4) (pc' := 7) (same := false) rfl (hb hby d2_4) rfl (decide_eq_false fun q => (own_ne F_SHIFT_RIGHT_precedence F_AND_precedence (by decide)) (Value.ref.inj q)) (by decide) (by decide) k) ?_
  refine own_go (B := T1.setTop (mkF m 8 #[.val (.ref (A 6))] [(.ref (A 6))])) (fun _ k => XS.aloadN X1.here hx rfl (hb hby d2_7) rfl rfl k) ?_
  obtain ⟨T2, X2, e2, st2⟩ := getS2 X1 hx hZ hown (host := "") (Or.inl (hw _ (List.mem_of_getElem? (i := 72) rfl))) Via.refl e1 (S_XOR.ext x0) (g := (mkF m 8 #[.val (.ref (A 6))] [(.ref (A 6))])) rfl (hb hby d2_8)
  refine own_go (B := T2.setTop (mkF m 11 #[.val (.ref (A 6))] [(.ref (A 15)), (.ref (A 6))])) st2 ?_
  refine own_go (B := T2.setTop (mkF m 14 #[.val (.ref (A 6))] [])) (fun _ k => Jvm.RoadKit.acmp (g := (mkF m 11 #[.val (.ref (A 6))] [(.ref (A 15)), (.ref (A 6))])) X2 hx rfl rfl rfl (pc0 := 11) (pc' := 14) (same := false) rfl (hb hby d2_11) rfl (decide_eq_false fun q => (own_ne F_SHIFT_RIGHT_precedence F_XOR_precedence (by decide)) (Value.ref.inj q)) (by decide) (by decide) k) ?_
  refine own_go (B := T2.setTop (mkF m 15 #[.val (.ref (A 6))] [(.ref (A 6))])) (fun _ k => XS.aloadN X2.here hx rfl (hb hby d2_14) rfl rfl k) ?_
  obtain ⟨T3, X3, e3, st3⟩ := getS2 X2 hx hZ hown (host := "") (Or.inl (hw _ (List.mem_of_getElem? (i := 73) rfl))) Via.refl e2 (S_OR.ext x0) (g := (mkF m 15 #[.val (.ref (A 6))] [(.ref (A 6))])) rfl (hb hby d2_15)
  refine own_go (B := T3.setTop (mkF m 18 #[.val (.ref (A 6))] [(.ref (A 16)), (.ref (A 6))])) st3 ?_
  refine own_go (B := T3.setTop (mkF m 25 #[.val (.ref (A 6))] [])) (fun _ k => Jvm.RoadKit.acmp (g := (mkF m 18 #[.val (.ref (A 6))] [(.ref (A 16)), (.ref (A 6))])) X3 hx rfl rfl rfl (pc0 := 18) (pc' := 25) (same := false) rfl (hb hby d2_18) rfl (decide_eq_false fun q => (own_ne F_SHIFT_RIGHT_precedence F_OR_precedence (by decide)) (Value.ref.inj q)) (by decide) (by decide) k) ?_
  refine own_go (B := T3.setTop (mkF m 26 #[.val (.ref (A 6))] [(.int (0 : Int32))])) (fun _ k => XT.iconstV X3.here hx rfl (0 : Int32) (hb hby d2_25) rfl k) ?_
  exact own_ret X3 hx (t := .boolean) hrt rfl (Or.inl ⟨rfl, by simp, _, rfl⟩) (hb hby d2_26) hlk ⟨rfl, N0, e3⟩ (by decide) (by decide)
set_option maxRecDepth 65536 in
set_option maxHeartbeats 40000000 in
theorem rm1_7 (l : Launch) (Z : State) (a0 : Array Value) (hw : ∀ d ∈ tables_1, d.before a0 Z = true) (ws : List Jvm.Cond)  (A : Nat → Addr) (hW : own_W Z A) (h0 : Heap) (x0 : Ext Z.heap h0)  :
    own_Met l Z (⟨"com/example/kilnbyte/kilnbyte/tree/Operator", "precedence", "()I"⟩ : MethodName) prog_214_method_5_code 1 (some .int) ws ({ frames := 0, cells := 0, slots := 0, locals := 0 } : Room) #[(.ref (A 7))] h0 (fun v_ h_ L_ => v_ = some (.int (8 : Int32)) ∧ Fr Z.heap.size L_ ∧ h_ = h0) := by
  refine own_body (plainFor_of_name pn_1) fun p e s m below meth c s₁ hx hby hml hown hnm hlk hrt hZ X0 e0 => ?_
  have N0 := Fr.nil Z.heap.size
  have F_UNSIGNED_SHIFT_RIGHT_precedence := own_w_F_UNSIGNED_SHIFT_RIGHT_precedence hW
  refine own_go (B := s₁.setTop (mkF m 0 #[.val (.ref (A 7))] [])) (fun t k => castTop (ef_1 m (A 7)) k) ?_
  refine own_go (B := s₁.setTop (mkF m 1 #[.val (.ref (A 7))] [(.ref (A 7))])) (fun _ k => XS.aloadN X0.here hx rfl (hb hby d1_0) rfl rfl k) ?_
  obtain ⟨T1, X1, e1, st1⟩ := getF X0 hx hZ hown (host := "") (Or.inl (hw _ (List.mem_of_getElem? (i := 64) rfl))) Via.refl e0 (F_UNSIGNED_SHIFT_RIGHT_precedence.ext x0) (g := (mkF m 1 #[.val (.ref (A 7))] [(.ref (A 7))])) rfl rfl (hb hby d1_1)
  refine own_go (B := T1.setTop (mkF m 4 #[.val (.ref (A 7))] [(.int (8 : Int32))])) st1 ?_
  exact own_ret X1 hx (t := .int) hrt rfl (Or.inl ⟨rfl, by simp, _, rfl⟩) (hb hby d1_4) hlk ⟨rfl, N0, e1⟩ (by decide) (by decide)
set_option maxRecDepth 65536 in
set_option maxHeartbeats 40000000 in
theorem rm2_7 (l : Launch) (Z : State) (a0 : Array Value) (hw : ∀ d ∈ tables_1, d.before a0 Z = true) (ws : List Jvm.Cond)  (A : Nat → Addr) (hW : own_W Z A) (h0 : Heap) (x0 : Ext Z.heap h0)  :
    own_Met l Z (⟨"com/example/kilnbyte/kilnbyte/tree/Operator", "isBitwise", "()Z"⟩ : MethodName) prog_214_method_10_code 1 (some .boolean) ws ({ frames := 0, cells := 0, slots := 0, locals := 0 } : Room) #[(.ref (A 7))] h0 (fun v_ h_ L_ => v_ = some (.int (0 : Int32)) ∧ Fr Z.heap.size L_ ∧ h_ = h0) := by
  refine own_body (plainFor_of_name pn_1) fun p e s m below meth c s₁ hx hby hml hown hnm hlk hrt hZ X0 e0 => ?_
  have N0 := Fr.nil Z.heap.size
  have S_AND := own_w_S_AND hW
  have S_XOR := own_w_S_XOR hW
  have S_OR := own_w_S_OR hW
  have F_UNSIGNED_SHIFT_RIGHT_precedence := own_w_F_UNSIGNED_SHIFT_RIGHT_precedence hW
  have F_XOR_precedence := own_w_F_XOR_precedence hW
  have F_OR_precedence := own_w_F_OR_precedence hW
  have F_AND_precedence := own_w_F_AND_precedence hW
  refine own_go (B := s₁.setTop (mkF m 0 #[.val (.ref (A 7))] [])) (fun t k => castTop (ef_2 m (A 7)) k) ?_
  refine own_go (B := s₁.setTop (mkF m 1 #[.val (.ref (A 7))] [(.ref (A 7))])) (fun _ k => XS.aloadN X0.here hx rfl (hb hby d2_0) rfl rfl k) ?_
  obtain ⟨T1, X1, e1, st1⟩ := getS2 X0 hx hZ hown (host := "") (Or.inl (hw _ (List.mem_of_getElem? (i := 71) rfl))) Via.refl e0 (S_AND.ext x0) (g := (mkF m 1 #[.val (.ref (A 7))] [(.ref (A 7))])) rfl (hb hby d2_1)
  refine own_go (B := T1.setTop (mkF m 4 #[.val (.ref (A 7))] [(.ref (A 14)), (.ref (A 7))])) st1 ?_
  refine own_go (B := T1.setTop (mkF m 7 #[.val (.ref (A 7))] [])) (fun _ k => Jvm.RoadKit.acmp (g := (mkF m 4 #[.val (.ref (A 7))] [(.ref (A 14)), (.ref (A 7))])) X1 hx rfl rfl rfl (pc0 := 4) (pc' := 7) (same := false) rfl (hb hby d2_4) rfl (decide_eq_false fun q => (own_ne F_UNSIGNED_SHIFT_RIGHT_precedence F_AND_precedence (by decide)) (Value.ref.inj q)) (by decide) (by decide) k) ?_
  refine own_go (B := T1.setTop (mkF m 8 #[.val (.ref (A 7))] [(.ref (A 7))])) (fun _ k => XS.aloadN X1.here hx rfl (hb hby d2_7) rfl rfl k) ?_
  obtain ⟨T2, X2, e2, st2⟩ := getS2 X1 hx hZ hown (host := "") (Or.inl (hw _ (List.mem_of_getElem? (i := 72) rfl))) Via.refl e1 (S_XOR.ext x0) (g := (mkF m 8 #[.val (.ref (A 7))] [(.ref (A 7))])) rfl (hb hby d2_8)
  refine own_go (B := T2.setTop (mkF m 11 #[.val (.ref (A 7))] [(.ref (A 15)), (.ref (A 7))])) st2 ?_
  refine own_go (B := T2.setTop (mkF m 14 #[.val (.ref (A 7))] [])) (fun _ k => Jvm.RoadKit.acmp (g := (mkF m 11 #[.val (.ref (A 7))] [(.ref (A 15)), (.ref (A 7))])) X2 hx rfl rfl rfl (pc0 := 11) (pc' := 14) (same := false) rfl (hb hby d2_11) rfl (decide_eq_false fun q => (own_ne F_UNSIGNED_SHIFT_RIGHT_precedence F_XOR_precedence (by decide)) (Value.ref.inj q)) (by decide) (by decide) k) ?_
  refine own_go (B := T2.setTop (mkF m 15 #[.val (.ref (A 7))] [(.ref (A 7))])) (fun _ k => XS.aloadN X2.here hx rfl (hb hby d2_14) rfl rfl k) ?_
  obtain ⟨T3, X3, e3, st3⟩ := getS2 X2 hx hZ hown (host := "") (Or.inl (hw _ (List.mem_of_getElem? (i := 73) rfl))) Via.refl e2 (S_OR.ext x0) (g := (mkF m 15 #[.val (.ref (A 7))] [(.ref (A 7))])) rfl (hb hby d2_15)
  refine own_go (B := T3.setTop (mkF m 18 #[.val (.ref (A 7))] [(.ref (A 16)), (.ref (A 7))])) st3 ?_
  refine own_go (B := T3.setTop (mkF m 25 #[.val (.ref (A 7))] [])) (fun _ k => Jvm.RoadKit.acmp (g := (mkF m 18 #[.val (.ref (A 7))] [(.ref (A 16)), (.ref (A 7))])) X3 hx rfl rfl rfl (pc0 := 18) (pc' := 25) (same := false) rfl (hb hby d2_18) rfl (decide_eq_false fun q => (own_ne F_UNSIGNED_SHIFT_RIGHT_precedence F_OR_precedence (by decide)) (Value.ref.inj q)) (by decide) (by decide) k) ?_
  refine own_go (B := T3.setTop (mkF m 26 #[.val (.ref (A 7))] [(.int (0 : Int32))])) (fun _ k => XT.iconstV X3.here hx rfl (0 : Int32) (hb hby d2_25) rfl k) ?_
  exact own_ret X3 hx (t := .boolean) hrt rfl (Or.inl ⟨rfl, by simp, _, rfl⟩) (hb hby d2_26) hlk ⟨rfl, N0, e3⟩ (by decide) (by decide)
set_option maxRecDepth 65536 in
set_option maxHeartbeats 40000000 in
theorem rm1_8 (l : Launch) (Z : State) (a0 : Array Value) (hw : ∀ d ∈ tables_1, d.before a0 Z = true) (ws : List Jvm.Cond)  (A : Nat → Addr) (hW : own_W Z A) (h0 : Heap) (x0 : Ext Z.heap h0)  :
    own_Met l Z (⟨"com/example/kilnbyte/kilnbyte/tree/Operator", "precedence", "()I"⟩ : MethodName) prog_214_method_5_code 1 (some .int) ws ({ frames := 0, cells := 0, slots := 0, locals := 0 } : Room) #[(.ref (A 8))] h0 (fun v_ h_ L_ => v_ = some (.int (7 : Int32)) ∧ Fr Z.heap.size L_ ∧ h_ = h0) := by
  refine own_body (plainFor_of_name pn_1) fun p e s m below meth c s₁ hx hby hml hown hnm hlk hrt hZ X0 e0 => ?_
  have N0 := Fr.nil Z.heap.size
  have F_LESS_precedence := own_w_F_LESS_precedence hW
  refine own_go (B := s₁.setTop (mkF m 0 #[.val (.ref (A 8))] [])) (fun t k => castTop (ef_1 m (A 8)) k) ?_
  refine own_go (B := s₁.setTop (mkF m 1 #[.val (.ref (A 8))] [(.ref (A 8))])) (fun _ k => XS.aloadN X0.here hx rfl (hb hby d1_0) rfl rfl k) ?_
  obtain ⟨T1, X1, e1, st1⟩ := getF X0 hx hZ hown (host := "") (Or.inl (hw _ (List.mem_of_getElem? (i := 64) rfl))) Via.refl e0 (F_LESS_precedence.ext x0) (g := (mkF m 1 #[.val (.ref (A 8))] [(.ref (A 8))])) rfl rfl (hb hby d1_1)
  refine own_go (B := T1.setTop (mkF m 4 #[.val (.ref (A 8))] [(.int (7 : Int32))])) st1 ?_
  exact own_ret X1 hx (t := .int) hrt rfl (Or.inl ⟨rfl, by simp, _, rfl⟩) (hb hby d1_4) hlk ⟨rfl, N0, e1⟩ (by decide) (by decide)
set_option maxRecDepth 65536 in
set_option maxHeartbeats 40000000 in
theorem rm2_8 (l : Launch) (Z : State) (a0 : Array Value) (hw : ∀ d ∈ tables_1, d.before a0 Z = true) (ws : List Jvm.Cond)  (A : Nat → Addr) (hW : own_W Z A) (h0 : Heap) (x0 : Ext Z.heap h0)  :
    own_Met l Z (⟨"com/example/kilnbyte/kilnbyte/tree/Operator", "isBitwise", "()Z"⟩ : MethodName) prog_214_method_10_code 1 (some .boolean) ws ({ frames := 0, cells := 0, slots := 0, locals := 0 } : Room) #[(.ref (A 8))] h0 (fun v_ h_ L_ => v_ = some (.int (0 : Int32)) ∧ Fr Z.heap.size L_ ∧ h_ = h0) := by
  refine own_body (plainFor_of_name pn_1) fun p e s m below meth c s₁ hx hby hml hown hnm hlk hrt hZ X0 e0 => ?_
  have N0 := Fr.nil Z.heap.size
  have S_AND := own_w_S_AND hW
  have S_XOR := own_w_S_XOR hW
  have S_OR := own_w_S_OR hW
  have F_LESS_precedence := own_w_F_LESS_precedence hW
  have F_XOR_precedence := own_w_F_XOR_precedence hW
  have F_OR_precedence := own_w_F_OR_precedence hW
  have F_AND_precedence := own_w_F_AND_precedence hW
  refine own_go (B := s₁.setTop (mkF m 0 #[.val (.ref (A 8))] [])) (fun t k => castTop (ef_2 m (A 8)) k) ?_
  refine own_go (B := s₁.setTop (mkF m 1 #[.val (.ref (A 8))] [(.ref (A 8))])) (fun _ k => XS.aloadN X0.here hx rfl (hb hby d2_0) rfl rfl k) ?_
  obtain ⟨T1, X1, e1, st1⟩ := getS2 X0 hx hZ hown (host := "") (Or.inl (hw _ (List.mem_of_getElem? (i := 71) rfl))) Via.refl e0 (S_AND.ext x0) (g := (mkF m 1 #[.val (.ref (A 8))] [(.ref (A 8))])) rfl (hb hby d2_1)
  refine own_go (B := T1.setTop (mkF m 4 #[.val (.ref (A 8))] [(.ref (A 14)), (.ref (A 8))])) st1 ?_
  refine own_go (B := T1.setTop (mkF m 7 #[.val (.ref (A 8))] [])) (fun _ k => Jvm.RoadKit.acmp (g := (mkF m 4 #[.val (.ref (A 8))] [(.ref (A 14)), (.ref (A 8))])) X1 hx rfl rfl rfl (pc0 := 4) (pc' := 7) (same := false) rfl (hb hby d2_4) rfl (decide_eq_false fun q => (own_ne F_LESS_precedence F_AND_precedence (by decide)) (Value.ref.inj q)) (by decide) (by decide) k) ?_
  refine own_go (B := T1.setTop (mkF m 8 #[.val (.ref (A 8))] [(.ref (A 8))])) (fun _ k => XS.aloadN X1.here hx rfl (hb hby d2_7) rfl rfl k) ?_
  obtain ⟨T2, X2, e2, st2⟩ := getS2 X1 hx hZ hown (host := "") (Or.inl (hw _ (List.mem_of_getElem? (i := 72) rfl))) Via.refl e1 (S_XOR.ext x0) (g := (mkF m 8 #[.val (.ref (A 8))] [(.ref (A 8))])) rfl (hb hby d2_8)
  refine own_go (B := T2.setTop (mkF m 11 #[.val (.ref (A 8))] [(.ref (A 15)), (.ref (A 8))])) st2 ?_
  refine own_go (B := T2.setTop (mkF m 14 #[.val (.ref (A 8))] [])) (fun _ k => Jvm.RoadKit.acmp (g := (mkF m 11 #[.val (.ref (A 8))] [(.ref (A 15)), (.ref (A 8))])) X2 hx rfl rfl rfl (pc0 := 11) (pc' := 14) (same := false) rfl (hb hby d2_11) rfl (decide_eq_false fun q => (own_ne F_LESS_precedence F_XOR_precedence (by decide)) (Value.ref.inj q)) (by decide) (by decide) k) ?_
  refine own_go (B := T2.setTop (mkF m 15 #[.val (.ref (A 8))] [(.ref (A 8))])) (fun _ k => XS.aloadN X2.here hx rfl (hb hby d2_14) rfl rfl k) ?_
  obtain ⟨T3, X3, e3, st3⟩ := getS2 X2 hx hZ hown (host := "") (Or.inl (hw _ (List.mem_of_getElem? (i := 73) rfl))) Via.refl e2 (S_OR.ext x0) (g := (mkF m 15 #[.val (.ref (A 8))] [(.ref (A 8))])) rfl (hb hby d2_15)
  refine own_go (B := T3.setTop (mkF m 18 #[.val (.ref (A 8))] [(.ref (A 16)), (.ref (A 8))])) st3 ?_
  refine own_go (B := T3.setTop (mkF m 25 #[.val (.ref (A 8))] [])) (fun _ k => Jvm.RoadKit.acmp (g := (mkF m 18 #[.val (.ref (A 8))] [(.ref (A 16)), (.ref (A 8))])) X3 hx rfl rfl rfl (pc0 := 18) (pc' := 25) (same := false) rfl (hb hby d2_18) rfl (decide_eq_false fun q => (own_ne F_LESS_precedence F_OR_precedence (by decide)) (Value.ref.inj q)) (by decide) (by decide) k) ?_
  refine own_go (B := T3.setTop (mkF m 26 #[.val (.ref (A 8))] [(.int (0 : Int32))])) (fun _ k => XT.iconstV X3.here hx rfl (0 : Int32) (hb hby d2_25) rfl k) ?_
  exact own_ret X3 hx (t := .boolean) hrt rfl (Or.inl ⟨rfl, by simp, _, rfl⟩) (hb hby d2_26) hlk ⟨rfl, N0, e3⟩ (by decide) (by decide)
set_option maxRecDepth 65536 in
set_option maxHeartbeats 40000000 in
theorem rm1_9 (l : Launch) (Z : State) (a0 : Array Value) (hw : ∀ d ∈ tables_1, d.before a0 Z = true) (ws : List Jvm.Cond)  (A : Nat → Addr) (hW : own_W Z A) (h0 : Heap) (x0 : Ext Z.heap h0)  :
    own_Met l Z (⟨"com/example/kilnbyte/kilnbyte/tree/Operator", "precedence", "()I"⟩ : MethodName) prog_214_method_5_code 1 (some .int) ws ({ frames := 0, cells := 0, slots := 0, locals := 0 } : Room) #[(.ref (A 9))] h0 (fun v_ h_ L_ => v_ = some (.int (7 : Int32)) ∧ Fr Z.heap.size L_ ∧ h_ = h0) := by
  refine own_body (plainFor_of_name pn_1) fun p e s m below meth c s₁ hx hby hml hown hnm hlk hrt hZ X0 e0 => ?_
  have N0 := Fr.nil Z.heap.size
  have F_GREATER_precedence := own_w_F_GREATER_precedence hW
  refine own_go (B := s₁.setTop (mkF m 0 #[.val (.ref (A 9))] [])) (fun t k => castTop (ef_1 m (A 9)) k) ?_
  refine own_go (B := s₁.setTop (mkF m 1 #[.val (.ref (A 9))] [(.ref (A 9))])) (fun _ k => XS.aloadN X0.here hx rfl (hb hby d1_0) rfl rfl k) ?_
  obtain ⟨T1, X1, e1, st1⟩ := getF X0 hx hZ hown (host := "") (Or.inl (hw _ (List.mem_of_getElem? (i := 64) rfl))) Via.refl e0 (F_GREATER_precedence.ext x0) (g := (mkF m 1 #[.val (.ref (A 9))] [(.ref (A 9))])) rfl rfl (hb hby d1_1)
  refine own_go (B := T1.setTop (mkF m 4 #[.val (.ref (A 9))] [(.int (7 : Int32))])) st1 ?_
  exact own_ret X1 hx (t := .int) hrt rfl (Or.inl ⟨rfl, by simp, _, rfl⟩) (hb hby d1_4) hlk ⟨rfl, N0, e1⟩ (by decide) (by decide)
set_option maxRecDepth 65536 in
set_option maxHeartbeats 40000000 in
theorem rm2_9 (l : Launch) (Z : State) (a0 : Array Value) (hw : ∀ d ∈ tables_1, d.before a0 Z = true) (ws : List Jvm.Cond)  (A : Nat → Addr) (hW : own_W Z A) (h0 : Heap) (x0 : Ext Z.heap h0)  :
    own_Met l Z (⟨"com/example/kilnbyte/kilnbyte/tree/Operator", "isBitwise", "()Z"⟩ : MethodName) prog_214_method_10_code 1 (some .boolean) ws ({ frames := 0, cells := 0, slots := 0, locals := 0 } : Room) #[(.ref (A 9))] h0 (fun v_ h_ L_ => v_ = some (.int (0 : Int32)) ∧ Fr Z.heap.size L_ ∧ h_ = h0) := by
  refine own_body (plainFor_of_name pn_1) fun p e s m below meth c s₁ hx hby hml hown hnm hlk hrt hZ X0 e0 => ?_
  have N0 := Fr.nil Z.heap.size
  have S_AND := own_w_S_AND hW
  have S_XOR := own_w_S_XOR hW
  have S_OR := own_w_S_OR hW
  have F_XOR_precedence := own_w_F_XOR_precedence hW
  have F_OR_precedence := own_w_F_OR_precedence hW
  have F_AND_precedence := own_w_F_AND_precedence hW
  have F_GREATER_precedence := own_w_F_GREATER_precedence hW
  refine own_go (B := s₁.setTop (mkF m 0 #[.val (.ref (A 9))] [])) (fun t k => castTop (ef_2 m (A 9)) k) ?_
  refine own_go (B := s₁.setTop (mkF m 1 #[.val (.ref (A 9))] [(.ref (A 9))])) (fun _ k => XS.aloadN X0.here hx rfl (hb hby d2_0) rfl rfl k) ?_
  obtain ⟨T1, X1, e1, st1⟩ := getS2 X0 hx hZ hown (host := "") (Or.inl (hw _ (List.mem_of_getElem? (i := 71) rfl))) Via.refl e0 (S_AND.ext x0) (g := (mkF m 1 #[.val (.ref (A 9))] [(.ref (A 9))])) rfl (hb hby d2_1)
  refine own_go (B := T1.setTop (mkF m 4 #[.val (.ref (A 9))] [(.ref (A 14)), (.ref (A 9))])) st1 ?_
  refine own_go (B := T1.setTop (mkF m 7 #[.val (.ref (A 9))] [])) (fun _ k => Jvm.RoadKit.acmp (g := (mkF m 4 #[.val (.ref (A 9))] [(.ref (A 14)), (.ref (A 9))])) X1 hx rfl rfl rfl (pc0 := 4) (pc' := 7) (same := false) rfl (hb hby d2_4) rfl (decide_eq_false fun q => (own_ne F_GREATER_precedence F_AND_precedence (by decide)) (Value.ref.inj q)) (by decide) (by decide) k) ?_
  refine own_go (B := T1.setTop (mkF m 8 #[.val (.ref (A 9))] [(.ref (A 9))])) (fun _ k => XS.aloadN X1.here hx rfl (hb hby d2_7) rfl rfl k) ?_
  obtain ⟨T2, X2, e2, st2⟩ := getS2 X1 hx hZ hown (host := "") (Or.inl (hw _ (List.mem_of_getElem? (i := 72) rfl))) Via.refl e1 (S_XOR.ext x0) (g := (mkF m 8 #[.val (.ref (A 9))] [(.ref (A 9))])) rfl (hb hby d2_8)
  refine own_go (B := T2.setTop (mkF m 11 #[.val (.ref (A 9))] [(.ref (A 15)), (.ref (A 9))])) st2 ?_
  refine own_go (B := T2.setTop (mkF m 14 #[.val (.ref (A 9))] [])) (fun _ k => Jvm.RoadKit.acmp (g := (mkF m 11 #[.val (.ref (A 9))] [(.ref (A 15)), (.ref (A 9))])) X2 hx rfl rfl rfl (pc0 := 11) (pc' := 14) (same := false) rfl (hb hby d2_11) rfl (decide_eq_false fun q => (own_ne F_GREATER_precedence F_XOR_precedence (by decide)) (Value.ref.inj q)) (by decide) (by decide) k) ?_
  refine own_go (B := T2.setTop (mkF m 15 #[.val (.ref (A 9))] [(.ref (A 9))])) (fun _ k => XS.aloadN X2.here hx rfl (hb hby d2_14) rfl rfl k) ?_
  obtain ⟨T3, X3, e3, st3⟩ := getS2 X2 hx hZ hown (host := "") (Or.inl (hw _ (List.mem_of_getElem? (i := 73) rfl))) Via.refl e2 (S_OR.ext x0) (g := (mkF m 15 #[.val (.ref (A 9))] [(.ref (A 9))])) rfl (hb hby d2_15)
  refine own_go (B := T3.setTop (mkF m 18 #[.val (.ref (A 9))] [(.ref (A 16)), (.ref (A 9))])) st3 ?_
  refine own_go (B := T3.setTop (mkF m 25 #[.val (.ref (A 9))] [])) (fun _ k => Jvm.RoadKit.acmp (g := (mkF m 18 #[.val (.ref (A 9))] [(.ref (A 16)), (.ref (A 9))])) X3 hx rfl rfl rfl (pc0 := 18) (pc' := 25) (same := false) rfl (hb hby d2_18) rfl (decide_eq_false fun q => (own_ne F_GREATER_precedence F_OR_precedence (by decide)) (Value.ref.inj q)) (by decide) (by decide) k) ?_
  refine own_go (B := T3.setTop (mkF m 26 #[.val (.ref (A 9))] [(.int (0 : Int32))])) (fun _ k => XT.iconstV X3.here hx rfl (0 : Int32) (hb hby d2_25) rfl k) ?_
  exact own_ret X3 hx (t := .boolean) hrt rfl (Or.inl ⟨rfl, by simp, _, rfl⟩) (hb hby d2_26) hlk ⟨rfl, N0, e3⟩ (by decide) (by decide)
set_option maxRecDepth 65536 in
set_option maxHeartbeats 40000000 in
theorem rm1_10 (l : Launch) (Z : State) (a0 : Array Value) (hw : ∀ d ∈ tables_1, d.before a0 Z = true) (ws : List Jvm.Cond)  (A : Nat → Addr) (hW : own_W Z A) (h0 : Heap) (x0 : Ext Z.heap h0)  :
    own_Met l Z (⟨"com/example/kilnbyte/kilnbyte/tree/Operator", "precedence", "()I"⟩ : MethodName) prog_214_method_5_code 1 (some .int) ws ({ frames := 0, cells := 0, slots := 0, locals := 0 } : Room) #[(.ref (A 10))] h0 (fun v_ h_ L_ => v_ = some (.int (7 : Int32)) ∧ Fr Z.heap.size L_ ∧ h_ = h0) := by
  refine own_body (plainFor_of_name pn_1) fun p e s m below meth c s₁ hx hby hml hown hnm hlk hrt hZ X0 e0 => ?_
  have N0 := Fr.nil Z.heap.size
  have F_LESS_EQUAL_precedence := own_w_F_LESS_EQUAL_precedence hW
  refine own_go (B := s₁.setTop (mkF m 0 #[.val (.ref (A 10))] [])) (fun t k => castTop (ef_1 m (A 10)) k) ?_
  refine own_go (B := s₁.setTop (mkF m 1 #[.val (.ref (A 10))] [(.ref (A 10))])) (fun _ k => XS.aloadN X0.here hx rfl (hb hby d1_0) rfl rfl k) ?_
  obtain ⟨T1, X1, e1, st1⟩ := getF X0 hx hZ hown (host := "") (Or.inl (hw _ (List.mem_of_getElem? (i := 64) rfl))) Via.refl e0 (F_LESS_EQUAL_precedence.ext x0) (g := (mkF m 1 #[.val (.ref (A 10))] [(.ref (A 10))])) rfl rfl (hb hby d1_1)
  refine own_go (B := T1.setTop (mkF m 4 #[.val (.ref (A 10))] [(.int (7 : Int32))])) st1 ?_
  exact own_ret X1 hx (t := .int) hrt rfl (Or.inl ⟨rfl, by simp, _, rfl⟩) (hb hby d1_4) hlk ⟨rfl, N0, e1⟩ (by decide) (by decide)
set_option maxRecDepth 65536 in
set_option maxHeartbeats 40000000 in
theorem rm2_10 (l : Launch) (Z : State) (a0 : Array Value) (hw : ∀ d ∈ tables_1, d.before a0 Z = true) (ws : List Jvm.Cond)  (A : Nat → Addr) (hW : own_W Z A) (h0 : Heap) (x0 : Ext Z.heap h0)  :
    own_Met l Z (⟨"com/example/kilnbyte/kilnbyte/tree/Operator", "isBitwise", "()Z"⟩ : MethodName) prog_214_method_10_code 1 (some .boolean) ws ({ frames := 0, cells := 0, slots := 0, locals := 0 } : Room) #[(.ref (A 10))] h0 (fun v_ h_ L_ => v_ = some (.int (0 : Int32)) ∧ Fr Z.heap.size L_ ∧ h_ = h0) := by
  refine own_body (plainFor_of_name pn_1) fun p e s m below meth c s₁ hx hby hml hown hnm hlk hrt hZ X0 e0 => ?_
  have N0 := Fr.nil Z.heap.size
  have S_AND := own_w_S_AND hW
  have S_XOR := own_w_S_XOR hW
  have S_OR := own_w_S_OR hW
  have F_LESS_EQUAL_precedence := own_w_F_LESS_EQUAL_precedence hW
  have F_XOR_precedence := own_w_F_XOR_precedence hW
  have F_OR_precedence := own_w_F_OR_precedence hW
  have F_AND_precedence := own_w_F_AND_precedence hW
  refine own_go (B := s₁.setTop (mkF m 0 #[.val (.ref (A 10))] [])) (fun t k => castTop (ef_2 m (A 10)) k) ?_
  refine own_go (B := s₁.setTop (mkF m 1 #[.val (.ref (A 10))] [(.ref (A 10))])) (fun _ k => XS.aloadN X0.here hx rfl (hb hby d2_0) rfl rfl k) ?_
  obtain ⟨T1, X1, e1, st1⟩ := getS2 X0 hx hZ hown (host := "") (Or.inl (hw _ (List.mem_of_getElem? (i := 71) rfl))) Via.refl e0 (S_AND.ext x0) (g := (mkF m 1 #[.val (.ref (A 10))] [(.ref (A 10))])) rfl (hb hby d2_1)
  refine own_go (B := T1.setTop (mkF m 4 #[.val (.ref (A 10))] [(.ref (A 14)), (.ref (A 10))])) st1 ?_
  refine own_go (B := T1.setTop (mkF m 7 #[.val (.ref (A 10))] [])) (fun _ k => Jvm.RoadKit.acmp (g := (mkF m 4 #[.val (.ref (A 10))] [(.ref (A 14)), (.ref (A 10))])) X1 hx rfl rfl rfl (pc0 := 4) (pc' := 7) (same := false) rfl (hb hby d2_4) rfl (decide_eq_false fun q => (own_ne F_LESS_EQUAL_precedence F_AND_precedence (by decide)) (Value.ref.inj q)) (by decide) (by decide) k) ?_
  refine own_go (B := T1.setTop (mkF m 8 #[.val (.ref (A 10))] [(.ref (A 10))])) (fun _ k => XS.aloadN X1.here hx rfl (hb hby d2_7) rfl rfl k) ?_
  obtain ⟨T2, X2, e2, st2⟩ := getS2 X1 hx hZ hown (host := "") (Or.inl (hw _ (List.mem_of_getElem? (i := 72) rfl))) Via.refl e1 (S_XOR.ext x0) (g := (mkF m 8 #[.val (.ref (A 10))] [(.ref (A 10))])) rfl (hb hby d2_8)
  refine own_go (B := T2.setTop (mkF m 11 #[.val (.ref (A 10))] [(.ref (A 15)), (.ref (A 10))])) st2 ?_
  refine own_go (B := T2.setTop (mkF m 14 #[.val (.ref (A 10))] [])) (fun _ k => Jvm.RoadKit.acmp (g := (mkF m 11 #[.val (.ref (A 10))] [(.ref (A 15)), (.ref (A 10))])) X2 hx rfl rfl rfl (pc0 := 11) (pc' := 14) (same := false) rfl (hb hby d2_11) rfl (decide_eq_false fun q => (own_ne F_LESS_EQUAL_precedence F_XOR_precedence (by decide)) (Value.ref.inj q)) (by decide) (by decide) k) ?_
  refine own_go (B := T2.setTop (mkF m 15 #[.val (.ref (A 10))] [(.ref (A 10))])) (fun _ k => XS.aloadN X2.here hx rfl (hb hby d2_14) rfl rfl k) ?_
  obtain ⟨T3, X3, e3, st3⟩ := getS2 X2 hx hZ hown (host := "") (Or.inl (hw _ (List.mem_of_getElem? (i := 73) rfl))) Via.refl e2 (S_OR.ext x0) (g := (mkF m 15 #[.val (.ref (A 10))] [(.ref (A 10))])) rfl (hb hby d2_15)
  refine own_go (B := T3.setTop (mkF m 18 #[.val (.ref (A 10))] [(.ref (A 16)), (.ref (A 10))])) st3 ?_
  refine own_go (B := T3.setTop (mkF m 25 #[.val (.ref (A 10))] [])) (fun _ k => Jvm.RoadKit.acmp (g := (mkF m 18 #[.val (.ref (A 10))] [(.ref (A 16)), (.ref (A 10))])) X3 hx rfl rfl rfl (pc0 := 18) (pc' := 25) (same := false) rfl (hb hby d2_18) rfl (decide_eq_false fun q => (own_ne F_LESS_EQUAL_precedence F_OR_precedence (by decide)) (Value.ref.inj q)) (by decide) (by decide) k) ?_
  refine own_go (B := T3.setTop (mkF m 26 #[.val (.ref (A 10))] [(.int (0 : Int32))])) (fun _ k => XT.iconstV X3.here hx rfl (0 : Int32) (hb hby d2_25) rfl k) ?_
  exact own_ret X3 hx (t := .boolean) hrt rfl (Or.inl ⟨rfl, by simp, _, rfl⟩) (hb hby d2_26) hlk ⟨rfl, N0, e3⟩ (by decide) (by decide)
set_option maxRecDepth 65536 in
set_option maxHeartbeats 40000000 in
theorem rm1_11 (l : Launch) (Z : State) (a0 : Array Value) (hw : ∀ d ∈ tables_1, d.before a0 Z = true) (ws : List Jvm.Cond)  (A : Nat → Addr) (hW : own_W Z A) (h0 : Heap) (x0 : Ext Z.heap h0)  :
    own_Met l Z (⟨"com/example/kilnbyte/kilnbyte/tree/Operator", "precedence", "()I"⟩ : MethodName) prog_214_method_5_code 1 (some .int) ws ({ frames := 0, cells := 0, slots := 0, locals := 0 } : Room) #[(.ref (A 11))] h0 (fun v_ h_ L_ => v_ = some (.int (7 : Int32)) ∧ Fr Z.heap.size L_ ∧ h_ = h0) := by
  refine own_body (plainFor_of_name pn_1) fun p e s m below meth c s₁ hx hby hml hown hnm hlk hrt hZ X0 e0 => ?_
  have N0 := Fr.nil Z.heap.size
  have F_GREATER_EQUAL_precedence := own_w_F_GREATER_EQUAL_precedence hW
  refine own_go (B := s₁.setTop (mkF m 0 #[.val (.ref (A 11))] [])) (fun t k => castTop (ef_1 m (A 11)) k) ?_
  refine own_go (B := s₁.setTop (mkF m 1 #[.val (.ref (A 11))] [(.ref (A 11))])) (fun _ k => XS.aloadN X0.here hx rfl (hb hby d1_0) rfl rfl k) ?_
  obtain ⟨T1, X1, e1, st1⟩ := getF X0 hx hZ hown (host := "") (Or.inl (hw _ (List.mem_of_getElem? (i := 64) rfl))) Via.refl e0 (F_GREATER_EQUAL_precedence.ext x0) (g := (mkF m 1 #[.val (.ref (A 11))] [(.ref (A 11))])) rfl rfl (hb hby d1_1)
  refine own_go (B := T1.setTop (mkF m 4 #[.val (.ref (A 11))] [(.int (7 : Int32))])) st1 ?_
  exact own_ret X1 hx (t := .int) hrt rfl (Or.inl ⟨rfl, by simp, _, rfl⟩) (hb hby d1_4) hlk ⟨rfl, N0, e1⟩ (by decide) (by decide)
set_option maxRecDepth 65536 in
set_option maxHeartbeats 40000000 in
theorem rm2_11 (l : Launch) (Z : State) (a0 : Array Value) (hw : ∀ d ∈ tables_1, d.before a0 Z = true) (ws : List Jvm.Cond)  (A : Nat → Addr) (hW : own_W Z A) (h0 : Heap) (x0 : Ext Z.heap h0)  :
    own_Met l Z (⟨"com/example/kilnbyte/kilnbyte/tree/Operator", "isBitwise", "()Z"⟩ : MethodName) prog_214_method_10_code 1 (some .boolean) ws ({ frames := 0, cells := 0, slots := 0, locals := 0 } : Room) #[(.ref (A 11))] h0 (fun v_ h_ L_ => v_ = some (.int (0 : Int32)) ∧ Fr Z.heap.size L_ ∧ h_ = h0) := by
  refine own_body (plainFor_of_name pn_1) fun p e s m below meth c s₁ hx hby hml hown hnm hlk hrt hZ X0 e0 => ?_
  have N0 := Fr.nil Z.heap.size
  have S_AND := own_w_S_AND hW
  have S_XOR := own_w_S_XOR hW
  have S_OR := own_w_S_OR hW
  have F_GREATER_EQUAL_precedence := own_w_F_GREATER_EQUAL_precedence hW
  have F_XOR_precedence := own_w_F_XOR_precedence hW
  have F_OR_precedence := own_w_F_OR_precedence hW
  have F_AND_precedence := own_w_F_AND_precedence hW
  refine own_go (B := s₁.setTop (mkF m 0 #[.val (.ref (A 11))] [])) (fun t k => castTop (ef_2 m (A 11)) k) ?_
  refine own_go (B := s₁.setTop (mkF m 1 #[.val (.ref (A 11))] [(.ref (A 11))])) (fun _ k => XS.aloadN X0.here hx rfl (hb hby d2_0) rfl rfl k) ?_
  obtain ⟨T1, X1, e1, st1⟩ := getS2 X0 hx hZ hown (host := "") (Or.inl (hw _ (List.mem_of_getElem? (i := 71) rfl))) Via.refl e0 (S_AND.ext x0) (g := (mkF m 1 #[.val (.ref (A 11))] [(.ref (A 11))])) rfl (hb hby d2_1)
  refine own_go (B := T1.setTop (mkF m 4 #[.val (.ref (A 11))] [(.ref (A 14)), (.ref (A 11))])) st1 ?_
  refine own_go (B := T1.setTop (mkF m 7 #[.val (.ref (A 11))] [])) (fun _ k => Jvm.RoadKit.acmp (g := (mkF m 4 #[.val (.ref (A 11))] [(.ref (A 14)), (.ref (A 11))])) X1 hx rfl rfl rfl (pc0 := 4) (pc' := 7) (same := false) rfl (hb hby d2_4) rfl (decide_eq_false fun q => (own_ne F_GREATER_EQUAL_precedence F_AND_precedence (by decide)) (Value.ref.inj q)) (by decide) (by decide) k) ?_
  refine own_go (B := T1.setTop (mkF m 8 #[.val (.ref (A 11))] [(.ref (A 11))])) (fun _ k => XS.aloadN X1.here hx rfl (hb hby d2_7) rfl rfl k) ?_
  obtain ⟨T2, X2, e2, st2⟩ := getS2 X1 hx hZ hown (host := "") (Or.inl (hw _ (List.mem_of_getElem? (i := 72) rfl))) Via.refl e1 (S_XOR.ext x0) (g := (mkF m 8 #[.val (.ref (A 11))] [(.ref (A 11))])) rfl (hb hby d2_8)
  refine own_go (B := T2.setTop (mkF m 11 #[.val (.ref (A 11))] [(.ref (A 15)), (.ref (A 11))])) st2 ?_
  refine own_go (B := T2.setTop (mkF m 14 #[.val (.ref (A 11))] [])) (fun _ k => Jvm.RoadKit.acmp (g := (mkF m 11 #[.val (.ref (A 11))] [(.ref (A 15)), (.ref (A 11))])) X2 hx rfl rfl rfl (pc0 := 11) (pc' := 14) (same := false) rfl (hb hby d2_11) rfl (decide_eq_false fun q => (own_ne F_GREATER_EQUAL_precedence F_XOR_precedence (by decide)) (Value.ref.inj q)) (by decide) (by decide) k) ?_
  refine own_go (B := T2.setTop (mkF m 15 #[.val (.ref (A 11))] [(.ref (A 11))])) (fun _ k => XS.aloadN X2.here hx rfl (hb hby d2_14) rfl rfl k) ?_
  obtain ⟨T3, X3, e3, st3⟩ := getS2 X2 hx hZ hown (host := "") (Or.inl (hw _ (List.mem_of_getElem? (i := 73) rfl))) Via.refl e2 (S_OR.ext x0) (g := (mkF m 15 #[.val (.ref (A 11))] [(.ref (A 11))])) rfl (hb hby d2_15)
  refine own_go (B := T3.setTop (mkF m 18 #[.val (.ref (A 11))] [(.ref (A 16)), (.ref (A 11))])) st3 ?_
  refine own_go (B := T3.setTop (mkF m 25 #[.val (.ref (A 11))] [])) (fun _ k => Jvm.RoadKit.acmp (g := (mkF m 18 #[.val (.ref (A 11))] [(.ref (A 16)), (.ref (A 11))])) X3 hx rfl rfl rfl (pc0 := 18) (pc' := 25) (same := false) rfl (hb hby d2_18) rfl (decide_eq_false fun q => (own_ne F_GREATER_EQUAL_precedence F_OR_precedence (by decide)) (Value.ref.inj q)) (by decide) (by decide) k) ?_
  refine own_go (B := T3.setTop (mkF m 26 #[.val (.ref (A 11))] [(.int (0 : Int32))])) (fun _ k => XT.iconstV X3.here hx rfl (0 : Int32) (hb hby d2_25) rfl k) ?_
  exact own_ret X3 hx (t := .boolean) hrt rfl (Or.inl ⟨rfl, by simp, _, rfl⟩) (hb hby d2_26) hlk ⟨rfl, N0, e3⟩ (by decide) (by decide)
set_option maxRecDepth 65536 in
set_option maxHeartbeats 40000000 in
theorem rm1_12 (l : Launch) (Z : State) (a0 : Array Value) (hw : ∀ d ∈ tables_1, d.before a0 Z = true) (ws : List Jvm.Cond)  (A : Nat → Addr) (hW : own_W Z A) (h0 : Heap) (x0 : Ext Z.heap h0)  :
    own_Met l Z (⟨"com/example/kilnbyte/kilnbyte/tree/Operator", "precedence", "()I"⟩ : MethodName) prog_214_method_5_code 1 (some .int) ws ({ frames := 0, cells := 0, slots := 0, locals := 0 } : Room) #[(.ref (A 12))] h0 (fun v_ h_ L_ => v_ = some (.int (6 : Int32)) ∧ Fr Z.heap.size L_ ∧ h_ = h0) := by
  refine own_body (plainFor_of_name pn_1) fun p e s m below meth c s₁ hx hby hml hown hnm hlk hrt hZ X0 e0 => ?_
  have N0 := Fr.nil Z.heap.size
  have F_EQUAL_precedence := own_w_F_EQUAL_precedence hW
  refine own_go (B := s₁.setTop (mkF m 0 #[.val (.ref (A 12))] [])) (fun t k => castTop (ef_1 m (A 12)) k) ?_
  refine own_go (B := s₁.setTop (mkF m 1 #[.val (.ref (A 12))] [(.ref (A 12))])) (fun _ k => XS.aloadN X0.here hx rfl (hb hby d1_0) rfl rfl k) ?_
  obtain ⟨T1, X1, e1, st1⟩ := getF X0 hx hZ hown (host := "") (Or.inl (hw _ (List.mem_of_getElem? (i := 64) rfl))) Via.refl e0 (F_EQUAL_precedence.ext x0) (g := (mkF m 1 #[.val (.ref (A 12))] [(.ref (A 12))])) rfl rfl (hb hby d1_1)
  refine own_go (B := T1.setTop (mkF m 4 #[.val (.ref (A 12))] [(.int (6 : Int32))])) st1 ?_
  exact own_ret X1 hx (t := .int) hrt rfl (Or.inl ⟨rfl, by simp, _, rfl⟩) (hb hby d1_4) hlk ⟨rfl, N0, e1⟩ (by decide) (by decide)
set_option maxRecDepth 65536 in
set_option maxHeartbeats 40000000 in
theorem rm2_12 (l : Launch) (Z : State) (a0 : Array Value) (hw : ∀ d ∈ tables_1, d.before a0 Z = true) (ws : List Jvm.Cond)  (A : Nat → Addr) (hW : own_W Z A) (h0 : Heap) (x0 : Ext Z.heap h0)  :
    own_Met l Z (⟨"com/example/kilnbyte/kilnbyte/tree/Operator", "isBitwise", "()Z"⟩ : MethodName) prog_214_method_10_code 1 (some .boolean) ws ({ frames := 0, cells := 0, slots := 0, locals := 0 } : Room) #[(.ref (A 12))] h0 (fun v_ h_ L_ => v_ = some (.int (0 : Int32)) ∧ Fr Z.heap.size L_ ∧ h_ = h0) := by
  refine own_body (plainFor_of_name pn_1) fun p e s m below meth c s₁ hx hby hml hown hnm hlk hrt hZ X0 e0 => ?_
  have N0 := Fr.nil Z.heap.size
  have S_AND := own_w_S_AND hW
  have S_XOR := own_w_S_XOR hW
  have S_OR := own_w_S_OR hW
  have F_XOR_precedence := own_w_F_XOR_precedence hW
  have F_OR_precedence := own_w_F_OR_precedence hW
  have F_AND_precedence := own_w_F_AND_precedence hW
  have F_EQUAL_precedence := own_w_F_EQUAL_precedence hW
  refine own_go (B := s₁.setTop (mkF m 0 #[.val (.ref (A 12))] [])) (fun t k => castTop (ef_2 m (A 12)) k) ?_
  refine own_go (B := s₁.setTop (mkF m 1 #[.val (.ref (A 12))] [(.ref (A 12))])) (fun _ k => XS.aloadN X0.here hx rfl (hb hby d2_0) rfl rfl k) ?_
  obtain ⟨T1, X1, e1, st1⟩ := getS2 X0 hx hZ hown (host := "") (Or.inl (hw _ (List.mem_of_getElem? (i := 71) rfl))) Via.refl e0 (S_AND.ext x0) (g := (mkF m 1 #[.val (.ref (A 12))] [(.ref (A 12))])) rfl (hb hby d2_1)
  refine own_go (B := T1.setTop (mkF m 4 #[.val (.ref (A 12))] [(.ref (A 14)), (.ref (A 12))])) st1 ?_
  refine own_go (B := T1.setTop (mkF m 7 #[.val (.ref (A 12))] [])) (fun _ k => Jvm.RoadKit.acmp (g := (mkF m 4 #[.val (.ref (A 12))] [(.ref (A 14)), (.ref (A 12))])) X1 hx rfl rfl rfl (pc0 := 4) (pc' := 7) (same := false) rfl (hb hby d2_4) rfl (decide_eq_false fun q => (own_ne F_EQUAL_precedence F_AND_precedence (by decide)) (Value.ref.inj q)) (by decide) (by decide) k) ?_
  refine own_go (B := T1.setTop (mkF m 8 #[.val (.ref (A 12))] [(.ref (A 12))])) (fun _ k => XS.aloadN X1.here hx rfl (hb hby d2_7) rfl rfl k) ?_
  obtain ⟨T2, X2, e2, st2⟩ := getS2 X1 hx hZ hown (host := "") (Or.inl (hw _ (List.mem_of_getElem? (i := 72) rfl))) Via.refl e1 (S_XOR.ext x0) (g := (mkF m 8 #[.val (.ref (A 12))] [(.ref (A 12))])) rfl (hb hby d2_8)
  refine own_go (B := T2.setTop (mkF m 11 #[.val (.ref (A 12))] [(.ref (A 15)), (.ref (A 12))])) st2 ?_
  refine own_go (B := T2.setTop (mkF m 14 #[.val (.ref (A 12))] [])) (fun _ k => Jvm.RoadKit.acmp (g := (mkF m 11 #[.val (.ref (A 12))] [(.ref (A 15)), (.ref (A 12))])) X2 hx rfl rfl rfl (pc0 := 11) (pc' := 14) (same := false) rfl (hb hby d2_11) rfl (decide_eq_false fun q => (own_ne F_EQUAL_precedence F_XOR_precedence (by decide)) (Value.ref.inj q)) (by decide) (by decide) k) ?_
  refine own_go (B := T2.setTop (mkF m 15 #[.val (.ref (A 12))] [(.ref (A 12))])) (fun _ k => XS.aloadN X2.here hx rfl (hb hby d2_14) rfl rfl k) ?_
  obtain ⟨T3, X3, e3, st3⟩ := getS2 X2 hx hZ hown (host := "") (Or.inl (hw _ (List.mem_of_getElem? (i := 73) rfl))) Via.refl e2 (S_OR.ext x0) (g := (mkF m 15 #[.val (.ref (A 12))] [(.ref (A 12))])) rfl (hb hby d2_15)
  refine own_go (B := T3.setTop (mkF m 18 #[.val (.ref (A 12))] [(.ref (A 16)), (.ref (A 12))])) st3 ?_
  refine own_go (B := T3.setTop (mkF m 25 #[.val (.ref (A 12))] [])) (fun _ k => Jvm.RoadKit.acmp (g := (mkF m 18 #[.val (.ref (A 12))] [(.ref (A 16)), (.ref (A 12))])) X3 hx rfl rfl rfl (pc0 := 18) (pc' := 25) (same := false) rfl (hb hby d2_18) rfl (decide_eq_false fun q => (own_ne F_EQUAL_precedence F_OR_precedence (by decide)) (Value.ref.inj q)) (by decide) (by decide) k) ?_
  refine own_go (B := T3.setTop (mkF m 26 #[.val (.ref (A 12))] [(.int (0 : Int32))])) (fun _ k => XT.iconstV X3.here hx rfl (0 : Int32) (hb hby d2_25) rfl k) ?_
  exact own_ret X3 hx (t := .boolean) hrt rfl (Or.inl ⟨rfl, by simp, _, rfl⟩) (hb hby d2_26) hlk ⟨rfl, N0, e3⟩ (by decide) (by decide)
set_option maxRecDepth 65536 in
set_option maxHeartbeats 40000000 in
theorem rm1_13 (l : Launch) (Z : State) (a0 : Array Value) (hw : ∀ d ∈ tables_1, d.before a0 Z = true) (ws : List Jvm.Cond)  (A : Nat → Addr) (hW : own_W Z A) (h0 : Heap) (x0 : Ext Z.heap h0)  :
    own_Met l Z (⟨"com/example/kilnbyte/kilnbyte/tree/Operator", "precedence", "()I"⟩ : MethodName) prog_214_method_5_code 1 (some .int) ws ({ frames := 0, cells := 0, slots := 0, locals := 0 } : Room) #[(.ref (A 13))] h0 (fun v_ h_ L_ => v_ = some (.int (6 : Int32)) ∧ Fr Z.heap.size L_ ∧ h_ = h0) := by
  refine own_body (plainFor_of_name pn_1) fun p e s m below meth c s₁ hx hby hml hown hnm hlk hrt hZ X0 e0 => ?_
  have N0 := Fr.nil Z.heap.size
  have F_NOT_EQUAL_precedence := own_w_F_NOT_EQUAL_precedence hW
  refine own_go (B := s₁.setTop (mkF m 0 #[.val (.ref (A 13))] [])) (fun t k => castTop (ef_1 m (A 13)) k) ?_
  refine own_go (B := s₁.setTop (mkF m 1 #[.val (.ref (A 13))] [(.ref (A 13))])) (fun _ k => XS.aloadN X0.here hx rfl (hb hby d1_0) rfl rfl k) ?_
  obtain ⟨T1, X1, e1, st1⟩ := getF X0 hx hZ hown (host := "") (Or.inl (hw _ (List.mem_of_getElem? (i := 64) rfl))) Via.refl e0 (F_NOT_EQUAL_precedence.ext x0) (g := (mkF m 1 #[.val (.ref (A 13))] [(.ref (A 13))])) rfl rfl (hb hby d1_1)
  refine own_go (B := T1.setTop (mkF m 4 #[.val (.ref (A 13))] [(.int (6 : Int32))])) st1 ?_
  exact own_ret X1 hx (t := .int) hrt rfl (Or.inl ⟨rfl, by simp, _, rfl⟩) (hb hby d1_4) hlk ⟨rfl, N0, e1⟩ (by decide) (by decide)
set_option maxRecDepth 65536 in
set_option maxHeartbeats 40000000 in
theorem rm2_13 (l : Launch) (Z : State) (a0 : Array Value) (hw : ∀ d ∈ tables_1, d.before a0 Z = true) (ws : List Jvm.Cond)  (A : Nat → Addr) (hW : own_W Z A) (h0 : Heap) (x0 : Ext Z.heap h0)  :
    own_Met l Z (⟨"com/example/kilnbyte/kilnbyte/tree/Operator", "isBitwise", "()Z"⟩ : MethodName) prog_214_method_10_code 1 (some .boolean) ws ({ frames := 0, cells := 0, slots := 0, locals := 0 } : Room) #[(.ref (A 13))] h0 (fun v_ h_ L_ => v_ = some (.int (0 : Int32)) ∧ Fr Z.heap.size L_ ∧ h_ = h0) := by
  refine own_body (plainFor_of_name pn_1) fun p e s m below meth c s₁ hx hby hml hown hnm hlk hrt hZ X0 e0 => ?_
  have N0 := Fr.nil Z.heap.size
  have S_AND := own_w_S_AND hW
  have S_XOR := own_w_S_XOR hW
  have S_OR := own_w_S_OR hW
  have F_XOR_precedence := own_w_F_XOR_precedence hW
  have F_OR_precedence := own_w_F_OR_precedence hW
  have F_NOT_EQUAL_precedence := own_w_F_NOT_EQUAL_precedence hW
  have F_AND_precedence := own_w_F_AND_precedence hW
  refine own_go (B := s₁.setTop (mkF m 0 #[.val (.ref (A 13))] [])) (fun t k => castTop (ef_2 m (A 13)) k) ?_
  refine own_go (B := s₁.setTop (mkF m 1 #[.val (.ref (A 13))] [(.ref (A 13))])) (fun _ k => XS.aloadN X0.here hx rfl (hb hby d2_0) rfl rfl k) ?_
  obtain ⟨T1, X1, e1, st1⟩ := getS2 X0 hx hZ hown (host := "") (Or.inl (hw _ (List.mem_of_getElem? (i := 71) rfl))) Via.refl e0 (S_AND.ext x0) (g := (mkF m 1 #[.val (.ref (A 13))] [(.ref (A 13))])) rfl (hb hby d2_1)
  refine own_go (B := T1.setTop (mkF m 4 #[.val (.ref (A 13))] [(.ref (A 14)), (.ref (A 13))])) st1 ?_
  refine own_go (B := T1.setTop (mkF m 7 #[.val (.ref (A 13))] [])) (fun _ k => Jvm.RoadKit.acmp (g := (mkF m 4 #[.val (.ref (A 13))] [(.ref (A 14)), (.ref (A 13))])) X1 hx rfl rfl rfl (pc0 := 4) (pc' := 7) (same := false) rfl (hb hby d2_4) rfl (decide_eq_false fun q => (own_ne F_NOT_EQUAL_precedence F_AND_precedence (by decide)) (Value.ref.inj q)) (by decide) (by decide) k) ?_
  refine own_go (B := T1.setTop (mkF m 8 #[.val (.ref (A 13))] [(.ref (A 13))])) (fun _ k => XS.aloadN X1.here hx rfl (hb hby d2_7) rfl rfl k) ?_
  obtain ⟨T2, X2, e2, st2⟩ := getS2 X1 hx hZ hown (host := "") (Or.inl (hw _ (List.mem_of_getElem? (i := 72) rfl))) Via.refl e1 (S_XOR.ext x0) (g := (mkF m 8 #[.val (.ref (A 13))] [(.ref (A 13))])) rfl (hb hby d2_8)
  refine own_go (B := T2.setTop (mkF m 11 #[.val (.ref (A 13))] [(.ref (A 15)), (.ref (A 13))])) st2 ?_
  refine own_go (B := T2.setTop (mkF m 14 #[.val (.ref (A 13))] [])) (fun _ k => Jvm.RoadKit.acmp (g := (mkF m 11 #[.val (.ref (A 13))] [(.ref (A 15)), (.ref (A 13))])) X2 hx rfl rfl rfl (pc0 := 11) (pc' := 14) (same := false) rfl (hb hby d2_11) rfl (decide_eq_false fun q => (own_ne F_NOT_EQUAL_precedence F_XOR_precedence (by decide)) (Value.ref.inj q)) (by decide) (by decide) k) ?_
  refine own_go (B := T2.setTop (mkF m 15 #[.val (.ref (A 13))] [(.ref (A 13))])) (fun _ k => XS.aloadN X2.here hx rfl (hb hby d2_14) rfl rfl k) ?_
  obtain ⟨T3, X3, e3, st3⟩ := getS2 X2 hx hZ hown (host := "") (Or.inl (hw _ (List.mem_of_getElem? (i := 73) rfl))) Via.refl e2 (S_OR.ext x0) (g := (mkF m 15 #[.val (.ref (A 13))] [(.ref (A 13))])) rfl (hb hby d2_15)
  refine own_go (B := T3.setTop (mkF m 18 #[.val (.ref (A 13))] [(.ref (A 16)), (.ref (A 13))])) st3 ?_
  refine own_go (B := T3.setTop (mkF m 25 #[.val (.ref (A 13))] [])) (fun _ k => Jvm.RoadKit.acmp (g := (mkF m 18 #[.val (.ref (A 13))] [(.ref (A 16)), (.ref (A 13))])) X3 hx rfl rfl rfl (pc0 := 18) (pc' := 25) (same := false) rfl (hb hby d2_18) rfl (decide_eq_false fun q => (own_ne F_NOT_EQUAL_precedence F_OR_precedence (by decide)) (Value.ref.inj q)) (by decide) (by decide) k) ?_
  refine own_go (B := T3.setTop (mkF m 26 #[.val (.ref (A 13))] [(.int (0 : Int32))])) (fun _ k => XT.iconstV X3.here hx rfl (0 : Int32) (hb hby d2_25) rfl k) ?_
  exact own_ret X3 hx (t := .boolean) hrt rfl (Or.inl ⟨rfl, by simp, _, rfl⟩) (hb hby d2_26) hlk ⟨rfl, N0, e3⟩ (by decide) (by decide)
set_option maxRecDepth 65536 in
set_option maxHeartbeats 40000000 in
theorem rm1_14 (l : Launch) (Z : State) (a0 : Array Value) (hw : ∀ d ∈ tables_1, d.before a0 Z = true) (ws : List Jvm.Cond)  (A : Nat → Addr) (hW : own_W Z A) (h0 : Heap) (x0 : Ext Z.heap h0)  :
    own_Met l Z (⟨"com/example/kilnbyte/kilnbyte/tree/Operator", "precedence", "()I"⟩ : MethodName) prog_214_method_5_code 1 (some .int) ws ({ frames := 0, cells := 0, slots := 0, locals := 0 } : Room) #[(.ref (A 14))] h0 (fun v_ h_ L_ => v_ = some (.int (5 : Int32)) ∧ Fr Z.heap.size L_ ∧ h_ = h0) := by
  refine own_body (plainFor_of_name pn_1) fun p e s m below meth c s₁ hx hby hml hown hnm hlk hrt hZ X0 e0 => ?_
  have N0 := Fr.nil Z.heap.size
  have F_AND_precedence := own_w_F_AND_precedence hW
  refine own_go (B := s₁.setTop (mkF m 0 #[.val (.ref (A 14))] [])) (fun t k => castTop (ef_1 m (A 14)) k) ?_
  refine own_go (B := s₁.setTop (mkF m 1 #[.val (.ref (A 14))] [(.ref (A 14))])) (fun _ k => XS.aloadN X0.here hx rfl (hb hby d1_0) rfl rfl k) ?_
  obtain ⟨T1, X1, e1, st1⟩ := getF X0 hx hZ hown (host := "") (Or.inl (hw _ (List.mem_of_getElem? (i := 64) rfl))) Via.refl e0 (F_AND_precedence.ext x0) (g := (mkF m 1 #[.val (.ref (A 14))] [(.ref (A 14))])) rfl rfl (hb hby d1_1)
  refine own_go (B := T1.setTop (mkF m 4 #[.val (.ref (A 14))] [(.int (5 : Int32))])) st1 ?_
  exact own_ret X1 hx (t := .int) hrt rfl (Or.inl ⟨rfl, by simp, _, rfl⟩) (hb hby d1_4) hlk ⟨rfl, N0, e1⟩ (by decide) (by decide)
set_option maxRecDepth 65536 in
set_option maxHeartbeats 40000000 in
theorem rm2_14 (l : Launch) (Z : State) (a0 : Array Value) (hw : ∀ d ∈ tables_1, d.before a0 Z = true) (ws : List Jvm.Cond)  (A : Nat → Addr) (hW : own_W Z A) (h0 : Heap) (x0 : Ext Z.heap h0)  :
    own_Met l Z (⟨"com/example/kilnbyte/kilnbyte/tree/Operator", "isBitwise", "()Z"⟩ : MethodName) prog_214_method_10_code 1 (some .boolean) ws ({ frames := 0, cells := 0, slots := 0, locals := 0 } : Room) #[(.ref (A 14))] h0 (fun v_ h_ L_ => v_ = some (.int (1 : Int32)) ∧ Fr Z.heap.size L_ ∧ h_ = h0) := by
  refine own_body (plainFor_of_name pn_1) fun p e s m below meth c s₁ hx hby hml hown hnm hlk hrt hZ X0 e0 => ?_
  have N0 := Fr.nil Z.heap.size
  have S_AND := own_w_S_AND hW
  refine own_go (B := s₁.setTop (mkF m 0 #[.val (.ref (A 14))] [])) (fun t k => castTop (ef_2 m (A 14)) k) ?_
  refine own_go (B := s₁.setTop (mkF m 1 #[.val (.ref (A 14))] [(.ref (A 14))])) (fun _ k => XS.aloadN X0.here hx rfl (hb hby d2_0) rfl rfl k) ?_
  obtain ⟨T1, X1, e1, st1⟩ := getS2 X0 hx hZ hown (host := "") (Or.inl (hw _ (List.mem_of_getElem? (i := 71) rfl))) Via.refl e0 (S_AND.ext x0) (g := (mkF m 1 #[.val (.ref (A 14))] [(.ref (A 14))])) rfl (hb hby d2_1)
  refine own_go (B := T1.setTop (mkF m 4 #[.val (.ref (A 14))] [(.ref (A 14)), (.ref (A 14))])) st1 ?_
  refine own_go (B := T1.setTop (mkF m 21 #[.val (.ref (A 14))] [])) (fun _ k => Jvm.RoadKit.acmp (g := (mkF m 4 #[.val (.ref (A 14))] [(.ref (A 14)), (.ref (A 14))])) X1 hx rfl rfl rfl (pc0 := 4) (pc' := 21) (same := true) rfl (hb hby d2_4) rfl (decide_eq_true rfl) (by decide) (by decide) k) ?_
  refine own_go (B := T1.setTop (mkF m 22 #[.val (.ref (A 14))] [(.int (1 : Int32))])) (fun _ k => XT.iconstV X1.here hx rfl (1 : Int32) (hb hby d2_21) rfl k) ?_
  refine own_go (B := T1.setTop (mkF m 26 #[.val (.ref (A 14))] [(.int (1 : Int32))])) (fun _ k => XS.goto X1.here hx rfl (pc0 := 22) (pc' := 26) rfl (hb hby d2_22) (by decide) (by decide) k) ?_
  exact own_ret X1 hx (t := .boolean) hrt rfl (Or.inl ⟨rfl, by simp, _, rfl⟩) (hb hby d2_26) hlk ⟨rfl, N0, e1⟩ (by decide) (by decide)
set_option maxRecDepth 65536 in
set_option maxHeartbeats 40000000 in
theorem rm1_15 (l : Launch) (Z : State) (a0 : Array Value) (hw : ∀ d ∈ tables_1, d.before a0 Z = true) (ws : List Jvm.Cond)  (A : Nat → Addr) (hW : own_W Z A) (h0 : Heap) (x0 : Ext Z.heap h0)  :
    own_Met l Z (⟨"com/example/kilnbyte/kilnbyte/tree/Operator", "precedence", "()I"⟩ : MethodName) prog_214_method_5_code 1 (some .int) ws ({ frames := 0, cells := 0, slots := 0, locals := 0 } : Room) #[(.ref (A 15))] h0 (fun v_ h_ L_ => v_ = some (.int (4 : Int32)) ∧ Fr Z.heap.size L_ ∧ h_ = h0) := by
  refine own_body (plainFor_of_name pn_1) fun p e s m below meth c s₁ hx hby hml hown hnm hlk hrt hZ X0 e0 => ?_
  have N0 := Fr.nil Z.heap.size
  have F_XOR_precedence := own_w_F_XOR_precedence hW
  refine own_go (B := s₁.setTop (mkF m 0 #[.val (.ref (A 15))] [])) (fun t k => castTop (ef_1 m (A 15)) k) ?_
  refine own_go (B := s₁.setTop (mkF m 1 #[.val (.ref (A 15))] [(.ref (A 15))])) (fun _ k => XS.aloadN X0.here hx rfl (hb hby d1_0) rfl rfl k) ?_
  obtain ⟨T1, X1, e1, st1⟩ := getF X0 hx hZ hown (host := "") (Or.inl (hw _ (List.mem_of_getElem? (i := 64) rfl))) Via.refl e0 (F_XOR_precedence.ext x0) (g := (mkF m 1 #[.val (.ref (A 15))] [(.ref (A 15))])) rfl rfl (hb hby d1_1)
  refine own_go (B := T1.setTop (mkF m 4 #[.val (.ref (A 15))] [(.int (4 : Int32))])) st1 ?_
  exact own_ret X1 hx (t := .int) hrt rfl (Or.inl ⟨rfl, by simp, _, rfl⟩) (hb hby d1_4) hlk ⟨rfl, N0, e1⟩ (by decide) (by decide)
set_option maxRecDepth 65536 in
set_option maxHeartbeats 40000000 in
theorem rm2_15 (l : Launch) (Z : State) (a0 : Array Value) (hw : ∀ d ∈ tables_1, d.before a0 Z = true) (ws : List Jvm.Cond)  (A : Nat → Addr) (hW : own_W Z A) (h0 : Heap) (x0 : Ext Z.heap h0)  :
    own_Met l Z (⟨"com/example/kilnbyte/kilnbyte/tree/Operator", "isBitwise", "()Z"⟩ : MethodName) prog_214_method_10_code 1 (some .boolean) ws ({ frames := 0, cells := 0, slots := 0, locals := 0 } : Room) #[(.ref (A 15))] h0 (fun v_ h_ L_ => v_ = some (.int (1 : Int32)) ∧ Fr Z.heap.size L_ ∧ h_ = h0) := by
  refine own_body (plainFor_of_name pn_1) fun p e s m below meth c s₁ hx hby hml hown hnm hlk hrt hZ X0 e0 => ?_
  have N0 := Fr.nil Z.heap.size
  have S_AND := own_w_S_AND hW
  have S_XOR := own_w_S_XOR hW
  have F_AND_ordinal := own_w_F_AND_ordinal hW
  have F_XOR_ordinal := own_w_F_XOR_ordinal hW
  refine own_go (B := s₁.setTop (mkF m 0 #[.val (.ref (A 15))] [])) (fun t k => castTop (ef_2 m (A 15)) k) ?_
  refine own_go (B := s₁.setTop (mkF m 1 #[.val (.ref (A 15))] [(.ref (A 15))])) (fun _ k => XS.aloadN X0.here hx rfl (hb hby d2_0) rfl rfl k) ?_
  obtain ⟨T1, X1, e1, st1⟩ := getS2 X0 hx hZ hown (host := "") (Or.inl (hw _ (List.mem_of_getElem? (i := 71) rfl))) Via.refl e0 (S_AND.ext x0) (g := (mkF m 1 #[.val (.ref (A 15))] [(.ref (A 15))])) rfl (hb hby d2_1)
  refine own_go (B := T1.setTop (mkF m 4 #[.val (.ref (A 15))] [(.ref (A 14)), (.ref (A 15))])) st1 ?_
  refine own_go (B := T1.setTop (mkF m 7 #[.val (.ref (A 15))] [])) (fun _ k => Jvm.RoadKit.acmp (g := (mkF m 4 #[.val (.ref (A 15))] [(.ref (A 14)), (.ref (A 15))])) X1 hx rfl rfl rfl (pc0 := 4) (pc' := 7) (same := false) rfl (hb hby d2_4) rfl (decide_eq_false fun q => (own_ne F_XOR_ordinal F_AND_ordinal (by decide)) (Value.ref.inj q)) (by decide) (by decide) k) ?_
  refine own_go (B := T1.setTop (mkF m 8 #[.val (.ref (A 15))] [(.ref (A 15))])) (fun _ k => XS.aloadN X1.here hx rfl (hb hby d2_7) rfl rfl k) ?_
  obtain ⟨T2, X2, e2, st2⟩ := getS2 X1 hx hZ hown (host := "") (Or.inl (hw _ (List.mem_of_getElem? (i := 72) rfl))) Via.refl e1 (S_XOR.ext x0) (g := (mkF m 8 #[.val (.ref (A 15))] [(.ref (A 15))])) rfl (hb hby d2_8)
  refine own_go (B := T2.setTop (mkF m 11 #[.val (.ref (A 15))] [(.ref (A 15)), (.ref (A 15))])) st2 ?_
  refine own_go (B := T2.setTop (mkF m 21 #[.val (.ref (A 15))] [])) (fun _ k => Jvm.RoadKit.acmp (g := (mkF m 11 #[.val (.ref (A 15))] [(.ref (A 15)), (.ref (A 15))])) X2 hx rfl rfl rfl (pc0 := 11) (pc' := 21) (same := true) rfl (hb hby d2_11) rfl (decide_eq_true rfl) (by decide) (by decide) k) ?_
  refine own_go (B := T2.setTop (mkF m 22 #[.val (.ref (A 15))] [(.int (1 : Int32))])) (fun _ k => XT.iconstV X2.here hx rfl (1 : Int32) (hb hby d2_21) rfl k) ?_
  refine own_go (B := T2.setTop (mkF m 26 #[.val (.ref (A 15))] [(.int (1 : Int32))])) (fun _ k => XS.goto X2.here hx rfl (pc0 := 22) (pc' := 26) rfl (hb hby d2_22) (by decide) (by decide) k) ?_
  exact own_ret X2 hx (t := .boolean) hrt rfl (Or.inl ⟨rfl, by simp, _, rfl⟩) (hb hby d2_26) hlk ⟨rfl, N0, e2⟩ (by decide) (by decide)
set_option maxRecDepth 65536 in
set_option maxHeartbeats 40000000 in
theorem rm1_16 (l : Launch) (Z : State) (a0 : Array Value) (hw : ∀ d ∈ tables_1, d.before a0 Z = true) (ws : List Jvm.Cond)  (A : Nat → Addr) (hW : own_W Z A) (h0 : Heap) (x0 : Ext Z.heap h0)  :
    own_Met l Z (⟨"com/example/kilnbyte/kilnbyte/tree/Operator", "precedence", "()I"⟩ : MethodName) prog_214_method_5_code 1 (some .int) ws ({ frames := 0, cells := 0, slots := 0, locals := 0 } : Room) #[(.ref (A 16))] h0 (fun v_ h_ L_ => v_ = some (.int (3 : Int32)) ∧ Fr Z.heap.size L_ ∧ h_ = h0) := by
  refine own_body (plainFor_of_name pn_1) fun p e s m below meth c s₁ hx hby hml hown hnm hlk hrt hZ X0 e0 => ?_
  have N0 := Fr.nil Z.heap.size
  have F_OR_precedence := own_w_F_OR_precedence hW
  refine own_go (B := s₁.setTop (mkF m 0 #[.val (.ref (A 16))] [])) (fun t k => castTop (ef_1 m (A 16)) k) ?_
  refine own_go (B := s₁.setTop (mkF m 1 #[.val (.ref (A 16))] [(.ref (A 16))])) (fun _ k => XS.aloadN X0.here hx rfl (hb hby d1_0) rfl rfl k) ?_
  obtain ⟨T1, X1, e1, st1⟩ := getF X0 hx hZ hown (host := "") (Or.inl (hw _ (List.mem_of_getElem? (i := 64) rfl))) Via.refl e0 (F_OR_precedence.ext x0) (g := (mkF m 1 #[.val (.ref (A 16))] [(.ref (A 16))])) rfl rfl (hb hby d1_1)
  refine own_go (B := T1.setTop (mkF m 4 #[.val (.ref (A 16))] [(.int (3 : Int32))])) st1 ?_
  exact own_ret X1 hx (t := .int) hrt rfl (Or.inl ⟨rfl, by simp, _, rfl⟩) (hb hby d1_4) hlk ⟨rfl, N0, e1⟩ (by decide) (by decide)
set_option maxRecDepth 65536 in
set_option maxHeartbeats 40000000 in
theorem rm2_16 (l : Launch) (Z : State) (a0 : Array Value) (hw : ∀ d ∈ tables_1, d.before a0 Z = true) (ws : List Jvm.Cond)  (A : Nat → Addr) (hW : own_W Z A) (h0 : Heap) (x0 : Ext Z.heap h0)  :
    own_Met l Z (⟨"com/example/kilnbyte/kilnbyte/tree/Operator", "isBitwise", "()Z"⟩ : MethodName) prog_214_method_10_code 1 (some .boolean) ws ({ frames := 0, cells := 0, slots := 0, locals := 0 } : Room) #[(.ref (A 16))] h0 (fun v_ h_ L_ => v_ = some (.int (1 : Int32)) ∧ Fr Z.heap.size L_ ∧ h_ = h0) := by
  refine own_body (plainFor_of_name pn_1) fun p e s m below meth c s₁ hx hby hml hown hnm hlk hrt hZ X0 e0 => ?_
  have N0 := Fr.nil Z.heap.size
  have S_AND := own_w_S_AND hW
  have S_XOR := own_w_S_XOR hW
  have S_OR := own_w_S_OR hW
  have F_AND_ordinal := own_w_F_AND_ordinal hW
  have F_XOR_ordinal := own_w_F_XOR_ordinal hW
  have F_OR_ordinal := own_w_F_OR_ordinal hW
  refine own_go (B := s₁.setTop (mkF m 0 #[.val (.ref (A 16))] [])) (fun t k => castTop (ef_2 m (A 16)) k) ?_
  refine own_go (B := s₁.setTop (mkF m 1 #[.val (.ref (A 16))] [(.ref (A 16))])) (fun _ k => XS.aloadN X0.here hx rfl (hb hby d2_0) rfl rfl k) ?_
  obtain ⟨T1, X1, e1, st1⟩ := getS2 X0 hx hZ hown (host := "") (Or.inl (hw _ (List.mem_of_getElem? (i := 71) rfl))) Via.refl e0 (S_AND.ext x0) (g := (mkF m 1 #[.val (.ref (A 16))] [(.ref (A 16))])) rfl (hb hby d2_1)
  refine own_go (B := T1.setTop (mkF m 4 #[.val (.ref (A 16))] [(.ref (A 14)), (.ref (A 16))])) st1 ?_
  refine own_go (B := T1.setTop (mkF m 7 #[.val (.ref (A 16))] [])) (fun _ k => Jvm.RoadKit.acmp (g := (mkF m 4 #[.val (.ref (A 16))] [(.ref (A 14)), (.ref (A 16))])) X1 hx rfl rfl rfl (pc0 := 4) (pc' := 7) (same := false) rfl (hb hby d2_4) rfl (decide_eq_false fun q => (own_ne F_OR_ordinal F_AND_ordinal (by decide)) (Value.ref.inj q)) (by decide) (by decide) k) ?_
  refine own_go (B := T1.setTop (mkF m 8 #[.val (.ref (A 16))] [(.ref (A 16))])) (fun _ k => XS.aloadN X1.here hx rfl (hb hby d2_7) rfl rfl k) ?_
  obtain ⟨T2, X2, e2, st2⟩ := getS2 X1 hx hZ hown (host := "") (Or.inl (hw _ (List.mem_of_getElem? (i := 72) rfl))) Via.refl e1 (S_XOR.ext x0) (g := (mkF m 8 #[.val (.ref (A 16))] [(.ref (A 16))])) rfl (hb hby d2_8)
  refine own_go (B := T2.setTop (mkF m 11 #[.val (.ref (A 16))] [(.ref (A 15)), (.ref (A 16))])) st2 ?_
  refine own_go (B := T2.setTop (mkF m 14 #[.val (.ref (A 16))] [])) (fun _ k => Jvm.RoadKit.acmp (g := (mkF m 11 #[.val (.ref (A 16))] [(.ref (A 15)), (.ref (A 16))])) X2 hx rfl rfl rfl (pc0 := 11) (pc' := 14) (same := false) rfl (hb hby d2_11) rfl (decide_eq_false fun q => (own_ne F_OR_ordinal F_XOR_ordinal (by decide)) (Value.ref.inj q)) (by decide) (by decide) k) ?_
  refine own_go (B := T2.setTop (mkF m 15 #[.val (.ref (A 16))] [(.ref (A 16))])) (fun _ k => XS.aloadN X2.here hx rfl (hb hby d2_14) rfl rfl k) ?_
  obtain ⟨T3, X3, e3, st3⟩ := getS2 X2 hx hZ hown (host := "") (Or.inl (hw _ (List.mem_of_getElem? (i := 73) rfl))) Via.refl e2 (S_OR.ext x0) (g := (mkF m 15 #[.val (.ref (A 16))] [(.ref (A 16))])) rfl (hb hby d2_15)
  refine own_go (B := T3.setTop (mkF m 18 #[.val (.ref (A 16))] [(.ref (A 16)), (.ref (A 16))])) st3 ?_
  refine own_go (B := T3.setTop (mkF m 21 #[.val (.ref (A 16))] [])) (fun _ k => Jvm.RoadKit.acmp (g := (mkF m 18 #[.val (.ref (A 16))] [(.ref (A 16)), (.ref (A 16))])) X3 hx rfl rfl rfl (pc0 := 18) (pc' := 21) (same := true) rfl (hb hby d2_18) rfl (decide_eq_true rfl) (by decide) (by decide) k) ?_
  refine own_go (B := T3.setTop (mkF m 22 #[.val (.ref (A 16))] [(.int (1 : Int32))])) (fun _ k => XT.iconstV X3.here hx rfl (1 : Int32) (hb hby d2_21) rfl k) ?_
  refine own_go (B := T3.setTop (mkF m 26 #[.val (.ref (A 16))] [(.int (1 : Int32))])) (fun _ k => XS.goto X3.here hx rfl (pc0 := 22) (pc' := 26) rfl (hb hby d2_22) (by decide) (by decide) k) ?_
  exact own_ret X3 hx (t := .boolean) hrt rfl (Or.inl ⟨rfl, by simp, _, rfl⟩) (hb hby d2_26) hlk ⟨rfl, N0, e3⟩ (by decide) (by decide)
set_option maxRecDepth 65536 in
set_option maxHeartbeats 40000000 in
theorem rm1_17 (l : Launch) (Z : State) (a0 : Array Value) (hw : ∀ d ∈ tables_1, d.before a0 Z = true) (ws : List Jvm.Cond)  (A : Nat → Addr) (hW : own_W Z A) (h0 : Heap) (x0 : Ext Z.heap h0)  :
    own_Met l Z (⟨"com/example/kilnbyte/kilnbyte/tree/Operator", "precedence", "()I"⟩ : MethodName) prog_214_method_5_code 1 (some .int) ws ({ frames := 0, cells := 0, slots := 0, locals := 0 } : Room) #[(.ref (A 17))] h0 (fun v_ h_ L_ => v_ = some (.int (2 : Int32)) ∧ Fr Z.heap.size L_ ∧ h_ = h0) := by
  refine own_body (plainFor_of_name pn_1) fun p e s m below meth c s₁ hx hby hml hown hnm hlk hrt hZ X0 e0 => ?_
  have N0 := Fr.nil Z.heap.size
  have F_CONDITIONAL_AND_precedence := own_w_F_CONDITIONAL_AND_precedence hW
  refine own_go (B := s₁.setTop (mkF m 0 #[.val (.ref (A 17))] [])) (fun t k => castTop (ef_1 m (A 17)) k) ?_
  refine own_go (B := s₁.setTop (mkF m 1 #[.val (.ref (A 17))] [(.ref (A 17))])) (fun _ k => XS.aloadN X0.here hx rfl (hb hby d1_0) rfl rfl k) ?_
  obtain ⟨T1, X1, e1, st1⟩ := getF X0 hx hZ hown (host := "") (Or.inl (hw _ (List.mem_of_getElem? (i := 64) rfl))) Via.refl e0 (F_CONDITIONAL_AND_precedence.ext x0) (g := (mkF m 1 #[.val (.ref (A 17))] [(.ref (A 17))])) rfl rfl (hb hby d1_1)
  refine own_go (B := T1.setTop (mkF m 4 #[.val (.ref (A 17))] [(.int (2 : Int32))])) st1 ?_
  exact own_ret X1 hx (t := .int) hrt rfl (Or.inl ⟨rfl, by simp, _, rfl⟩) (hb hby d1_4) hlk ⟨rfl, N0, e1⟩ (by decide) (by decide)
set_option maxRecDepth 65536 in
set_option maxHeartbeats 40000000 in
theorem rm2_17 (l : Launch) (Z : State) (a0 : Array Value) (hw : ∀ d ∈ tables_1, d.before a0 Z = true) (ws : List Jvm.Cond)  (A : Nat → Addr) (hW : own_W Z A) (h0 : Heap) (x0 : Ext Z.heap h0)  :
    own_Met l Z (⟨"com/example/kilnbyte/kilnbyte/tree/Operator", "isBitwise", "()Z"⟩ : MethodName) prog_214_method_10_code 1 (some .boolean) ws ({ frames := 0, cells := 0, slots := 0, locals := 0 } : Room) #[(.ref (A 17))] h0 (fun v_ h_ L_ => v_ = some (.int (0 : Int32)) ∧ Fr Z.heap.size L_ ∧ h_ = h0) := by
  refine own_body (plainFor_of_name pn_1) fun p e s m below meth c s₁ hx hby hml hown hnm hlk hrt hZ X0 e0 => ?_
  have N0 := Fr.nil Z.heap.size
  have S_AND := own_w_S_AND hW
  have S_XOR := own_w_S_XOR hW
  have S_OR := own_w_S_OR hW
  have F_XOR_precedence := own_w_F_XOR_precedence hW
  have F_OR_precedence := own_w_F_OR_precedence hW
  have F_AND_precedence := own_w_F_AND_precedence hW
  have F_CONDITIONAL_AND_precedence := own_w_F_CONDITIONAL_AND_precedence hW
  refine own_go (B := s₁.setTop (mkF m 0 #[.val (.ref (A 17))] [])) (fun t k => castTop (ef_2 m (A 17)) k) ?_
  refine own_go (B := s₁.setTop (mkF m 1 #[.val (.ref (A 17))] [(.ref (A 17))])) (fun _ k => XS.aloadN X0.here hx rfl (hb hby d2_0) rfl rfl k) ?_
  obtain ⟨T1, X1, e1, st1⟩ := getS2 X0 hx hZ hown (host := "") (Or.inl (hw _ (List.mem_of_getElem? (i := 71) rfl))) Via.refl e0 (S_AND.ext x0) (g := (mkF m 1 #[.val (.ref (A 17))] [(.ref (A 17))])) rfl (hb hby d2_1)
  refine own_go (B := T1.setTop (mkF m 4 #[.val (.ref (A 17))] [(.ref (A 14)), (.ref (A 17))])) st1 ?_
  refine own_go (B := T1.setTop (mkF m 7 #[.val (.ref (A 17))] [])) (fun _ k => Jvm.RoadKit.acmp (g := (mkF m 4 #[.val (.ref (A 17))] [(.ref (A 14)), (.ref (A 17))])) X1 hx rfl rfl rfl (pc0 := 4) (pc' := 7) (same := false) rfl (hb hby d2_4) rfl (decide_eq_false fun q => (own_ne F_CONDITIONAL_AND_precedence F_AND_precedence (by decide)) (Value.ref.inj q)) (by decide) (by decide) k) ?_
  refine own_go (B := T1.setTop (mkF m 8 #[.val (.ref (A 17))] [(.ref (A 17))])) (fun _ k => XS.aloadN X1.here hx rfl (hb hby d2_7) rfl rfl k) ?_
  obtain ⟨T2, X2, e2, st2⟩ := getS2 X1 hx hZ hown (host := "") (Or.inl (hw _ (List.mem_of_getElem? (i := 72) rfl))) Via.refl e1 (S_XOR.ext x0) (g := (mkF m 8 #[.val (.ref (A 17))] [(.ref (A 17))])) rfl (hb hby d2_8)
  refine own_go (B := T2.setTop (mkF m 11 #[.val (.ref (A 17))] [(.ref (A 15)), (.ref (A 17))])) st2 ?_
  refine own_go (B := T2.setTop (mkF m 14 #[.val (.ref (A 17))] [])) (fun _ k => Jvm.RoadKit.acmp (g := (mkF m 11 #[.val (.ref (A 17))] [(.ref (A 15)), (.ref (A 17))])) X2 hx rfl rfl rfl (pc0 := 11) (pc' := 14) (same := false) rfl (hb hby d2_11) rfl (decide_eq_false fun q => (own_ne F_CONDITIONAL_AND_precedence F_XOR_precedence (by decide)) (Value.ref.inj q)) (by decide) (by decide) k) ?_
  refine own_go (B := T2.setTop (mkF m 15 #[.val (.ref (A 17))] [(.ref (A 17))])) (fun _ k => XS.aloadN X2.here hx rfl (hb hby d2_14) rfl rfl k) ?_
  obtain ⟨T3, X3, e3, st3⟩ := getS2 X2 hx hZ hown (host := "") (Or.inl (hw _ (List.mem_of_getElem? (i := 73) rfl))) Via.refl e2 (S_OR.ext x0) (g := (mkF m 15 #[.val (.ref (A 17))] [(.ref (A 17))])) rfl (hb hby d2_15)
  refine own_go (B := T3.setTop (mkF m 18 #[.val (.ref (A 17))] [(.ref (A 16)), (.ref (A 17))])) st3 ?_
  refine own_go (B := T3.setTop (mkF m 25 #[.val (.ref (A 17))] [])) (fun _ k => Jvm.RoadKit.acmp (g := (mkF m 18 #[.val (.ref (A 17))] [(.ref (A 16)), (.ref (A 17))])) X3 hx rfl rfl rfl (pc0 := 18) (pc' := 25) (same := false) rfl (hb hby d2_18) rfl (decide_eq_false fun q => (own_ne F_CONDITIONAL_AND_precedence F_OR_precedence (by decide)) (Value.ref.inj q)) (by decide) (by decide) k) ?_
  refine own_go (B := T3.setTop (mkF m 26 #[.val (.ref (A 17))] [(.int (0 : Int32))])) (fun _ k => XT.iconstV X3.here hx rfl (0 : Int32) (hb hby d2_25) rfl k) ?_
  exact own_ret X3 hx (t := .boolean) hrt rfl (Or.inl ⟨rfl, by simp, _, rfl⟩) (hb hby d2_26) hlk ⟨rfl, N0, e3⟩ (by decide) (by decide)
set_option maxRecDepth 65536 in
set_option maxHeartbeats 40000000 in
theorem rm1_18 (l : Launch) (Z : State) (a0 : Array Value) (hw : ∀ d ∈ tables_1, d.before a0 Z = true) (ws : List Jvm.Cond)  (A : Nat → Addr) (hW : own_W Z A) (h0 : Heap) (x0 : Ext Z.heap h0)  :
    own_Met l Z (⟨"com/example/kilnbyte/kilnbyte/tree/Operator", "precedence", "()I"⟩ : MethodName) prog_214_method_5_code 1 (some .int) ws ({ frames := 0, cells := 0, slots := 0, locals := 0 } : Room) #[(.ref (A 18))] h0 (fun v_ h_ L_ => v_ = some (.int (1 : Int32)) ∧ Fr Z.heap.size L_ ∧ h_ = h0) := by
  refine own_body (plainFor_of_name pn_1) fun p e s m below meth c s₁ hx hby hml hown hnm hlk hrt hZ X0 e0 => ?_
  have N0 := Fr.nil Z.heap.size
  have F_CONDITIONAL_OR_precedence := own_w_F_CONDITIONAL_OR_precedence hW
  refine own_go (B := s₁.setTop (mkF m 0 #[.val (.ref (A 18))] [])) (fun t k => castTop (ef_1 m (A 18)) k) ?_
  refine own_go (B := s₁.setTop (mkF m 1 #[.val (.ref (A 18))] [(.ref (A 18))])) (fun _ k => XS.aloadN X0.here hx rfl (hb hby d1_0) rfl rfl k) ?_
  obtain ⟨T1, X1, e1, st1⟩ := getF X0 hx hZ hown (host := "") (Or.inl (hw _ (List.mem_of_getElem? (i := 64) rfl))) Via.refl e0 (F_CONDITIONAL_OR_precedence.ext x0) (g := (mkF m 1 #[.val (.ref (A 18))] [(.ref (A 18))])) rfl rfl (hb hby d1_1)
  refine own_go (B := T1.setTop (mkF m 4 #[.val (.ref (A 18))] [(.int (1 : Int32))])) st1 ?_
  exact own_ret X1 hx (t := .int) hrt rfl (Or.inl ⟨rfl, by simp, _, rfl⟩) (hb hby d1_4) hlk ⟨rfl, N0, e1⟩ (by decide) (by decide)
set_option maxRecDepth 65536 in
set_option maxHeartbeats 40000000 in
theorem rm2_18 (l : Launch) (Z : State) (a0 : Array Value) (hw : ∀ d ∈ tables_1, d.before a0 Z = true) (ws : List Jvm.Cond)  (A : Nat → Addr) (hW : own_W Z A) (h0 : Heap) (x0 : Ext Z.heap h0)  :
    own_Met l Z (⟨"com/example/kilnbyte/kilnbyte/tree/Operator", "isBitwise", "()Z"⟩ : MethodName) prog_214_method_10_code 1 (some .boolean) ws ({ frames := 0, cells := 0, slots := 0, locals := 0 } : Room) #[(.ref (A 18))] h0 (fun v_ h_ L_ => v_ = some (.int (0 : Int32)) ∧ Fr Z.heap.size L_ ∧ h_ = h0) := by
  refine own_body (plainFor_of_name pn_1) fun p e s m below meth c s₁ hx hby hml hown hnm hlk hrt hZ X0 e0 => ?_
  have N0 := Fr.nil Z.heap.size
  have S_AND := own_w_S_AND hW
  have S_XOR := own_w_S_XOR hW
  have S_OR := own_w_S_OR hW
  have F_XOR_precedence := own_w_F_XOR_precedence hW
  have F_OR_precedence := own_w_F_OR_precedence hW
  have F_AND_precedence := own_w_F_AND_precedence hW
  have F_CONDITIONAL_OR_precedence := own_w_F_CONDITIONAL_OR_precedence hW
  refine own_go (B := s₁.setTop (mkF m 0 #[.val (.ref (A 18))] [])) (fun t k => castTop (ef_2 m (A 18)) k) ?_
  refine own_go (B := s₁.setTop (mkF m 1 #[.val (.ref (A 18))] [(.ref (A 18))])) (fun _ k => XS.aloadN X0.here hx rfl (hb hby d2_0) rfl rfl k) ?_
  obtain ⟨T1, X1, e1, st1⟩ := getS2 X0 hx hZ hown (host := "") (Or.inl (hw _ (List.mem_of_getElem? (i := 71) rfl))) Via.refl e0 (S_AND.ext x0) (g := (mkF m 1 #[.val (.ref (A 18))] [(.ref (A 18))])) rfl (hb hby d2_1)
  refine own_go (B := T1.setTop (mkF m 4 #[.val (.ref (A 18))] [(.ref (A 14)), (.ref (A 18))])) st1 ?_
  refine own_go (B := T1.setTop (mkF m 7 #[.val (.ref (A 18))] [])) (fun _ k => Jvm.RoadKit.acmp (g := (mkF m 4 #[.val (.ref (A 18))] [(.ref (A 14)), (.ref (A 18))])) X1 hx rfl rfl rfl (pc0 := 4) (pc' := 7) (same := false) rfl (hb hby d2_4) rfl (decide_eq_false fun q => (own_ne F_CONDITIONAL_OR_precedence F_AND_precedence (by decide)) (Value.ref.inj q)) (by decide) (by decide) k) ?_
  refine own_go (B := T1.setTop (mkF m 8 #[.val (.ref (A 18))] [(.ref (A 18))])) (fun _ k => XS.aloadN X1.here hx rfl (hb hby d2_7) rfl rfl k) ?_
  obtain ⟨T2, X2, e2, st2⟩ := getS2 X1 hx hZ hown (host := "") (Or.inl (hw _ (List.mem_of_getElem? (i := 72) rfl))) Via.refl e1 (S_XOR.ext x0) (g := (mkF m 8 #[.val (.ref (A 18))] [(.ref (A 18))])) rfl (hb hby d2_8)
  refine own_go (B := T2.setTop (mkF m 11 #[.val (.ref (A 18))] [(.ref (A 15)), (.ref (A 18))])) st2 ?_
  refine own_go (B := T2.setTop (mkF m 14 #[.val (.ref (A 18))] [])) (fun _ k => Jvm.RoadKit.acmp (g := (mkF m 11 #[.val (.ref (A 18))] [(.ref (A 15)), (.ref (A 18))])) X2 hx rfl rfl rfl (pc0 := 11) (pc' := 14) (same := false) rfl (hb hby d2_11) rfl (decide_eq_false fun q => (own_ne F_CONDITIONAL_OR_precedence F_XOR_precedence (by decide)) (Value.ref.inj q)) (by decide) (by decide) k) ?_
  refine own_go (B := T2.setTop (mkF m 15 #[.val (.ref (A 18))] [(.ref (A 18))])) (fun _ k => XS.aloadN X2.here hx rfl (hb hby d2_14) rfl rfl k) ?_
  obtain ⟨T3, X3, e3, st3⟩ := getS2 X2 hx hZ hown (host := "") (Or.inl (hw _ (List.mem_of_getElem? (i := 73) rfl))) Via.refl e2 (S_OR.ext x0) (g := (mkF m 15 #[.val (.ref (A 18))] [(.ref (A 18))])) rfl (hb hby d2_15)
  refine own_go (B := T3.setTop (mkF m 18 #[.val (.ref (A 18))] [(.ref (A 16)), (.ref (A 18))])) st3 ?_
  refine own_go (B := T3.setTop (mkF m 25 #[.val (.ref (A 18))] [])) (fun _ k => Jvm.RoadKit.acmp (g := (mkF m 18 #[.val (.ref (A 18))] [(.ref (A 16)), (.ref (A 18))])) X3 hx rfl rfl rfl (pc0 := 18) (pc' := 25) (same := false) rfl (hb hby d2_18) rfl (decide_eq_false fun q => (own_ne F_CONDITIONAL_OR_precedence F_OR_precedence (by decide)) (Value.ref.inj q)) (by decide) (by decide) k) ?_
  refine own_go (B := T3.setTop (mkF m 26 #[.val (.ref (A 18))] [(.int (0 : Int32))])) (fun _ k => XT.iconstV X3.here hx rfl (0 : Int32) (hb hby d2_25) rfl k) ?_
  exact own_ret X3 hx (t := .boolean) hrt rfl (Or.inl ⟨rfl, by simp, _, rfl⟩) (hb hby d2_26) hlk ⟨rfl, N0, e3⟩ (by decide) (by decide)
set_option maxRecDepth 65536 in
set_option maxHeartbeats 40000000 in
theorem rm1_19 (l : Launch) (Z : State) (a0 : Array Value) (hw : ∀ d ∈ tables_1, d.before a0 Z = true) (ws : List Jvm.Cond)  (A : Nat → Addr) (hW : own_W Z A) (h0 : Heap) (x0 : Ext Z.heap h0)  :
    own_Met l Z (⟨"com/example/kilnbyte/kilnbyte/tree/Operator", "precedence", "()I"⟩ : MethodName) prog_214_method_5_code 1 (some .int) ws ({ frames := 0, cells := 0, slots := 0, locals := 0 } : Room) #[(.ref (A 19))] h0 (fun v_ h_ L_ => v_ = some (.int (0 : Int32)) ∧ Fr Z.heap.size L_ ∧ h_ = h0) := by
  refine own_body (plainFor_of_name pn_1) fun p e s m below meth c s₁ hx hby hml hown hnm hlk hrt hZ X0 e0 => ?_
  have N0 := Fr.nil Z.heap.size
  have F_PLUS_precedence := own_w_F_PLUS_precedence hW
  refine own_go (B := s₁.setTop (mkF m 0 #[.val (.ref (A 19))] [])) (fun t k => castTop (ef_1 m (A 19)) k) ?_
  refine own_go (B := s₁.setTop (mkF m 1 #[.val (.ref (A 19))] [(.ref (A 19))])) (fun _ k => XS.aloadN X0.here hx rfl (hb hby d1_0) rfl rfl k) ?_
  obtain ⟨T1, X1, e1, st1⟩ := getF X0 hx hZ hown (host := "") (Or.inl (hw _ (List.mem_of_getElem? (i := 64) rfl))) Via.refl e0 (F_PLUS_precedence.ext x0) (g := (mkF m 1 #[.val (.ref (A 19))] [(.ref (A 19))])) rfl rfl (hb hby d1_1)
  refine own_go (B := T1.setTop (mkF m 4 #[.val (.ref (A 19))] [(.int (0 : Int32))])) st1 ?_
  exact own_ret X1 hx (t := .int) hrt rfl (Or.inl ⟨rfl, by simp, _, rfl⟩) (hb hby d1_4) hlk ⟨rfl, N0, e1⟩ (by decide) (by decide)
set_option maxRecDepth 65536 in
set_option maxHeartbeats 40000000 in
theorem rm2_19 (l : Launch) (Z : State) (a0 : Array Value) (hw : ∀ d ∈ tables_1, d.before a0 Z = true) (ws : List Jvm.Cond)  (A : Nat → Addr) (hW : own_W Z A) (h0 : Heap) (x0 : Ext Z.heap h0)  :
    own_Met l Z (⟨"com/example/kilnbyte/kilnbyte/tree/Operator", "isBitwise", "()Z"⟩ : MethodName) prog_214_method_10_code 1 (some .boolean) ws ({ frames := 0, cells := 0, slots := 0, locals := 0 } : Room) #[(.ref (A 19))] h0 (fun v_ h_ L_ => v_ = some (.int (0 : Int32)) ∧ Fr Z.heap.size L_ ∧ h_ = h0) := by
  refine own_body (plainFor_of_name pn_1) fun p e s m below meth c s₁ hx hby hml hown hnm hlk hrt hZ X0 e0 => ?_
  have N0 := Fr.nil Z.heap.size
  have S_AND := own_w_S_AND hW
  have S_XOR := own_w_S_XOR hW
  have S_OR := own_w_S_OR hW
  have F_XOR_precedence := own_w_F_XOR_precedence hW
  have F_OR_precedence := own_w_F_OR_precedence hW
  have F_PLUS_precedence := own_w_F_PLUS_precedence hW
  have F_AND_precedence := own_w_F_AND_precedence hW
  refine own_go (B := s₁.setTop (mkF m 0 #[.val (.ref (A 19))] [])) (fun t k => castTop (ef_2 m (A 19)) k) ?_
  refine own_go (B := s₁.setTop (mkF m 1 #[.val (.ref (A 19))] [(.ref (A 19))])) (fun _ k => XS.aloadN X0.here hx rfl (hb hby d2_0) rfl rfl k) ?_
  obtain ⟨T1, X1, e1, st1⟩ := getS2 X0 hx hZ hown (host := "") (Or.inl (hw _ (List.mem_of_getElem? (i := 71) rfl))) Via.refl e0 (S_AND.ext x0) (g := (mkF m 1 #[.val (.ref (A 19))] [(.ref (A 19))])) rfl (hb hby d2_1)
  refine own_go (B := T1.setTop (mkF m 4 #[.val (.ref (A 19))] [(.ref (A 14)), (.ref (A 19))])) st1 ?_
  refine own_go (B := T1.setTop (mkF m 7 #[.val (.ref (A 19))] [])) (fun _ k => Jvm.RoadKit.acmp (g := (mkF m 4 #[.val (.ref (A 19))] [(.ref (A 14)), (.ref (A 19))])) X1 hx rfl rfl rfl (pc0 := 4) (pc' := 7) (same := false) rfl (hb hby d2_4) rfl (decide_eq_false fun q => (own_ne F_PLUS_precedence F_AND_precedence (by decide)) (Value.ref.inj q)) (by decide) (by decide) k) ?_
  refine own_go (B := T1.setTop (mkF m 8 #[.val (.ref (A 19))] [(.ref (A 19))])) (fun _ k => XS.aloadN X1.here hx rfl (hb hby d2_7) rfl rfl k) ?_
  obtain ⟨T2, X2, e2, st2⟩ := getS2 X1 hx hZ hown (host := "") (Or.inl (hw _ (List.mem_of_getElem? (i := 72) rfl))) Via.refl e1 (S_XOR.ext x0) (g := (mkF m 8 #[.val (.ref (A 19))] [(.ref (A 19))])) rfl (hb hby d2_8)
  refine own_go (B := T2.setTop (mkF m 11 #[.val (.ref (A 19))] [(.ref (A 15)), (.ref (A 19))])) st2 ?_
  refine own_go (B := T2.setTop (mkF m 14 #[.val (.ref (A 19))] [])) (fun _ k => Jvm.RoadKit.acmp (g := (mkF m 11 #[.val (.ref (A 19))] [(.ref (A 15)), (.ref (A 19))])) X2 hx rfl rfl rfl (pc0 := 11) (pc' := 14) (same := false) rfl (hb hby d2_11) rfl (decide_eq_false fun q => (own_ne F_PLUS_precedence F_XOR_precedence (by decide)) (Value.ref.inj q)) (by decide) (by decide) k) ?_
  refine own_go (B := T2.setTop (mkF m 15 #[.val (.ref (A 19))] [(.ref (A 19))])) (fun _ k => XS.aloadN X2.here hx rfl (hb hby d2_14) rfl rfl k) ?_
  obtain ⟨T3, X3, e3, st3⟩ := getS2 X2 hx hZ hown (host := "") (Or.inl (hw _ (List.mem_of_getElem? (i := 73) rfl))) Via.refl e2 (S_OR.ext x0) (g := (mkF m 15 #[.val (.ref (A 19))] [(.ref (A 19))])) rfl (hb hby d2_15)
  refine own_go (B := T3.setTop (mkF m 18 #[.val (.ref (A 19))] [(.ref (A 16)), (.ref (A 19))])) st3 ?_
  refine own_go (B := T3.setTop (mkF m 25 #[.val (.ref (A 19))] [])) (fun _ k => Jvm.RoadKit.acmp (g := (mkF m 18 #[.val (.ref (A 19))] [(.ref (A 16)), (.ref (A 19))])) X3 hx rfl rfl rfl (pc0 := 18) (pc' := 25) (same := false) rfl (hb hby d2_18) rfl (decide_eq_false fun q => (own_ne F_PLUS_precedence F_OR_precedence (by decide)) (Value.ref.inj q)) (by decide) (by decide) k) ?_
  refine own_go (B := T3.setTop (mkF m 26 #[.val (.ref (A 19))] [(.int (0 : Int32))])) (fun _ k => XT.iconstV X3.here hx rfl (0 : Int32) (hb hby d2_25) rfl k) ?_
  exact own_ret X3 hx (t := .boolean) hrt rfl (Or.inl ⟨rfl, by simp, _, rfl⟩) (hb hby d2_26) hlk ⟨rfl, N0, e3⟩ (by decide) (by decide)
set_option maxRecDepth 65536 in
set_option maxHeartbeats 40000000 in
theorem rm1_20 (l : Launch) (Z : State) (a0 : Array Value) (hw : ∀ d ∈ tables_1, d.before a0 Z = true) (ws : List Jvm.Cond)  (A : Nat → Addr) (hW : own_W Z A) (h0 : Heap) (x0 : Ext Z.heap h0)  :
    own_Met l Z (⟨"com/example/kilnbyte/kilnbyte/tree/Operator", "precedence", "()I"⟩ : MethodName) prog_214_method_5_code 1 (some .int) ws ({ frames := 0, cells := 0, slots := 0, locals := 0 } : Room) #[(.ref (A 20))] h0 (fun v_ h_ L_ => v_ = some (.int (0 : Int32)) ∧ Fr Z.heap.size L_ ∧ h_ = h0) := by
  refine own_body (plainFor_of_name pn_1) fun p e s m below meth c s₁ hx hby hml hown hnm hlk hrt hZ X0 e0 => ?_
  have N0 := Fr.nil Z.heap.size
  have F_MINUS_precedence := own_w_F_MINUS_precedence hW
  refine own_go (B := s₁.setTop (mkF m 0 #[.val (.ref (A 20))] [])) (fun t k => castTop (ef_1 m (A 20)) k) ?_
  refine own_go (B := s₁.setTop (mkF m 1 #[.val (.ref (A 20))] [(.ref (A 20))])) (fun _ k => XS.aloadN X0.here hx rfl (hb hby d1_0) rfl rfl k) ?_
  obtain ⟨T1, X1, e1, st1⟩ := getF X0 hx hZ hown (host := "") (Or.inl (hw _ (List.mem_of_getElem? (i := 64) rfl))) Via.refl e0 (F_MINUS_precedence.ext x0) (g := (mkF m 1 #[.val (.ref (A 20))] [(.ref (A 20))])) rfl rfl (hb hby d1_1)
  refine own_go (B := T1.setTop (mkF m 4 #[.val (.ref (A 20))] [(.int (0 : Int32))])) st1 ?_
  exact own_ret X1 hx (t := .int) hrt rfl (Or.inl ⟨rfl, by simp, _, rfl⟩) (hb hby d1_4) hlk ⟨rfl, N0, e1⟩ (by decide) (by decide)
set_option maxRecDepth 65536 in
set_option maxHeartbeats 40000000 in
theorem rm2_20 (l : Launch) (Z : State) (a0 : Array Value) (hw : ∀ d ∈ tables_1, d.before a0 Z = true) (ws : List Jvm.Cond)  (A : Nat → Addr) (hW : own_W Z A) (h0 : Heap) (x0 : Ext Z.heap h0)  :
    own_Met l Z (⟨"com/example/kilnbyte/kilnbyte/tree/Operator", "isBitwise", "()Z"⟩ : MethodName) prog_214_method_10_code 1 (some .boolean) ws ({ frames := 0, cells := 0, slots := 0, locals := 0 } : Room) #[(.ref (A 20))] h0 (fun v_ h_ L_ => v_ = some (.int (0 : Int32)) ∧ Fr Z.heap.size L_ ∧ h_ = h0) := by
  refine own_body (plainFor_of_name pn_1) fun p e s m below meth c s₁ hx hby hml hown hnm hlk hrt hZ X0 e0 => ?_
  have N0 := Fr.nil Z.heap.size
  have S_AND := own_w_S_AND hW
  have S_XOR := own_w_S_XOR hW
  have S_OR := own_w_S_OR hW
  have F_MINUS_precedence := own_w_F_MINUS_precedence hW
  have F_XOR_precedence := own_w_F_XOR_precedence hW
  have F_OR_precedence := own_w_F_OR_precedence hW
  have F_AND_precedence := own_w_F_AND_precedence hW
  refine own_go (B := s₁.setTop (mkF m 0 #[.val (.ref (A 20))] [])) (fun t k => castTop (ef_2 m (A 20)) k) ?_
  refine own_go (B := s₁.setTop (mkF m 1 #[.val (.ref (A 20))] [(.ref (A 20))])) (fun _ k => XS.aloadN X0.here hx rfl (hb hby d2_0) rfl rfl k) ?_
  obtain ⟨T1, X1, e1, st1⟩ := getS2 X0 hx hZ hown (host := "") (Or.inl (hw _ (List.mem_of_getElem? (i := 71) rfl))) Via.refl e0 (S_AND.ext x0) (g := (mkF m 1 #[.val (.ref (A 20))] [(.ref (A 20))])) rfl (hb hby d2_1)
  refine own_go (B := T1.setTop (mkF m 4 #[.val (.ref (A 20))] [(.ref (A 14)), (.ref (A 20))])) st1 ?_
  refine own_go (B := T1.setTop (mkF m 7 #[.val (.ref (A 20))] [])) (fun _ k => Jvm.RoadKit.acmp (g := (mkF m 4 #[.val (.ref (A 20))] [(.ref (A 14)), (.ref (A 20))])) X1 hx rfl rfl rfl (pc0 := 4) (pc' := 7) (same := false) rfl (hb hby d2_4) rfl (decide_eq_false fun q => (own_ne F_MINUS_precedence F_AND_precedence (by decide)) (Value.ref.inj q)) (by decide) (by decide) k) ?_
  refine own_go (B := T1.setTop (mkF m 8 #[.val (.ref (A 20))] [(.ref (A 20))])) (fun _ k => XS.aloadN X1.here hx rfl (hb hby d2_7) rfl rfl k) ?_
  obtain ⟨T2, X2, e2, st2⟩ := getS2 X1 hx hZ hown (host := "") (Or.inl (hw _ (List.mem_of_getElem? (i := 72) rfl))) Via.refl e1 (S_XOR.ext x0) (g := (mkF m 8 #[.val (.ref (A 20))] [(.ref (A 20))])) rfl (hb hby d2_8)
  refine own_go (B := T2.setTop (mkF m 11 #[.val (.ref (A 20))] [(.ref (A 15)), (.ref (A 20))])) st2 ?_
  refine own_go (B := T2.setTop (mkF m 14 #[.val (.ref (A 20))] [])) (fun _ k => Jvm.RoadKit.acmp (g := (mkF m 11 #[.val (.ref (A 20))] [(.ref (A 15)), (.ref (A 20))])) X2 hx rfl rfl rfl (pc0 := 11) (pc' := 14) (same := false) rfl (hb hby d2_11) rfl (decide_eq_false fun q => (own_ne F_MINUS_precedence F_XOR_precedence (by decide)) (Value.ref.inj q)) (by decide) (by decide) k) ?_
  refine own_go (B := T2.setTop (mkF m 15 #[.val (.ref (A 20))] [(.ref (A 20))])) (fun _ k => XS.aloadN X2.here hx rfl (hb hby d2_14) rfl rfl k) ?_
  obtain ⟨T3, X3, e3, st3⟩ := getS2 X2 hx hZ hown (host := "") (Or.inl (hw _ (List.mem_of_getElem? (i := 73) rfl))) Via.refl e2 (S_OR.ext x0) (g := (mkF m 15 #[.val (.ref (A 20))] [(.ref (A 20))])) rfl (hb hby d2_15)
  refine own_go (B := T3.setTop (mkF m 18 #[.val (.ref (A 20))] [(.ref (A 16)), (.ref (A 20))])) st3 ?_
  refine own_go (B := T3.setTop (mkF m 25 #[.val (.ref (A 20))] [])) (fun _ k => Jvm.RoadKit.acmp (g := (mkF m 18 #[.val (.ref (A 20))] [(.ref (A 16)), (.ref (A 20))])) X3 hx rfl rfl rfl (pc0 := 18) (pc' := 25) (same := false) rfl (hb hby d2_18) rfl (decide_eq_false fun q => (own_ne F_MINUS_precedence F_OR_precedence (by decide)) (Value.ref.inj q)) (by decide) (by decide) k) ?_
  refine own_go (B := T3.setTop (mkF m 26 #[.val (.ref (A 20))] [(.int (0 : Int32))])) (fun _ k => XT.iconstV X3.here hx rfl (0 : Int32) (hb hby d2_25) rfl k) ?_
  exact own_ret X3 hx (t := .boolean) hrt rfl (Or.inl ⟨rfl, by simp, _, rfl⟩) (hb hby d2_26) hlk ⟨rfl, N0, e3⟩ (by decide) (by decide)
set_option maxRecDepth 65536 in
set_option maxHeartbeats 40000000 in
theorem rm1_21 (l : Launch) (Z : State) (a0 : Array Value) (hw : ∀ d ∈ tables_1, d.before a0 Z = true) (ws : List Jvm.Cond)  (A : Nat → Addr) (hW : own_W Z A) (h0 : Heap) (x0 : Ext Z.heap h0)  :
    own_Met l Z (⟨"com/example/kilnbyte/kilnbyte/tree/Operator", "precedence", "()I"⟩ : MethodName) prog_214_method_5_code 1 (some .int) ws ({ frames := 0, cells := 0, slots := 0, locals := 0 } : Room) #[(.ref (A 21))] h0 (fun v_ h_ L_ => v_ = some (.int (0 : Int32)) ∧ Fr Z.heap.size L_ ∧ h_ = h0) := by
  refine own_body (plainFor_of_name pn_1) fun p e s m below meth c s₁ hx hby hml hown hnm hlk hrt hZ X0 e0 => ?_
  have N0 := Fr.nil Z.heap.size
  have F_COMPLEMENT_precedence := own_w_F_COMPLEMENT_precedence hW
  refine own_go (B := s₁.setTop (mkF m 0 #[.val (.ref (A 21))] [])) (fun t k => castTop (ef_1 m (A 21)) k) ?_
  refine own_go (B := s₁.setTop (mkF m 1 #[.val (.ref (A 21))] [(.ref (A 21))])) (fun _ k => XS.aloadN X0.here hx rfl (hb hby d1_0) rfl rfl k) ?_
  obtain ⟨T1, X1, e1, st1⟩ := getF X0 hx hZ hown (host := "") (Or.inl (hw _ (List.mem_of_getElem? (i := 64) rfl))) Via.refl e0 (F_COMPLEMENT_precedence.ext x0) (g := (mkF m 1 #[.val (.ref (A 21))] [(.ref (A 21))])) rfl rfl (hb hby d1_1)
  refine own_go (B := T1.setTop (mkF m 4 #[.val (.ref (A 21))] [(.int (0 : Int32))])) st1 ?_
  exact own_ret X1 hx (t := .int) hrt rfl (Or.inl ⟨rfl, by simp, _, rfl⟩) (hb hby d1_4) hlk ⟨rfl, N0, e1⟩ (by decide) (by decide)
set_option maxRecDepth 65536 in
set_option maxHeartbeats 40000000 in
theorem rm2_21 (l : Launch) (Z : State) (a0 : Array Value) (hw : ∀ d ∈ tables_1, d.before a0 Z = true) (ws : List Jvm.Cond)  (A : Nat → Addr) (hW : own_W Z A) (h0 : Heap) (x0 : Ext Z.heap h0)  :
    own_Met l Z (⟨"com/example/kilnbyte/kilnbyte/tree/Operator", "isBitwise", "()Z"⟩ : MethodName) prog_214_method_10_code 1 (some .boolean) ws ({ frames := 0, cells := 0, slots := 0, locals := 0 } : Room) #[(.ref (A 21))] h0 (fun v_ h_ L_ => v_ = some (.int (0 : Int32)) ∧ Fr Z.heap.size L_ ∧ h_ = h0) := by
  refine own_body (plainFor_of_name pn_1) fun p e s m below meth c s₁ hx hby hml hown hnm hlk hrt hZ X0 e0 => ?_
  have N0 := Fr.nil Z.heap.size
  have S_AND := own_w_S_AND hW
  have S_XOR := own_w_S_XOR hW
  have S_OR := own_w_S_OR hW
  have F_COMPLEMENT_precedence := own_w_F_COMPLEMENT_precedence hW
  have F_XOR_precedence := own_w_F_XOR_precedence hW
  have F_OR_precedence := own_w_F_OR_precedence hW
  have F_AND_precedence := own_w_F_AND_precedence hW
  refine own_go (B := s₁.setTop (mkF m 0 #[.val (.ref (A 21))] [])) (fun t k => castTop (ef_2 m (A 21)) k) ?_
  refine own_go (B := s₁.setTop (mkF m 1 #[.val (.ref (A 21))] [(.ref (A 21))])) (fun _ k => XS.aloadN X0.here hx rfl (hb hby d2_0) rfl rfl k) ?_
  obtain ⟨T1, X1, e1, st1⟩ := getS2 X0 hx hZ hown (host := "") (Or.inl (hw _ (List.mem_of_getElem? (i := 71) rfl))) Via.refl e0 (S_AND.ext x0) (g := (mkF m 1 #[.val (.ref (A 21))] [(.ref (A 21))])) rfl (hb hby d2_1)
  refine own_go (B := T1.setTop (mkF m 4 #[.val (.ref (A 21))] [(.ref (A 14)), (.ref (A 21))])) st1 ?_
  refine own_go (B := T1.setTop (mkF m 7 #[.val (.ref (A 21))] [])) (fun _ k => Jvm.RoadKit.acmp (g := (mkF m 4 #[.val (.ref (A 21))] [(.ref (A 14)), (.ref (A 21))])) X1 hx rfl rfl rfl (pc0 := 4) (pc' := 7) (same := false) rfl (hb hby d2_4) rfl (decide_eq_false fun q => (own_ne F_COMPLEMENT_precedence F_AND_precedence (by decide)) (Value.ref.inj q)) (by decide) (by decide) k) ?_
  refine own_go (B := T1.setTop (mkF m 8 #[.val (.ref (A 21))] [(.ref (A 21))])) (fun _ k => XS.aloadN X1.here hx rfl (hb hby d2_7) rfl rfl k) ?_
  obtain ⟨T2, X2, e2, st2⟩ := getS2 X1 hx hZ hown (host := "") (Or.inl (hw _ (List.mem_of_getElem? (i := 72) rfl))) Via.refl e1 (S_XOR.ext x0) (g := (mkF m 8 #[.val (.ref (A 21))] [(.ref (A 21))])) rfl (hb hby d2_8)
  refine own_go (B := T2.setTop (mkF m 11 #[.val (.ref (A 21))] [(.ref (A 15)), (.ref (A 21))])) st2 ?_
  refine own_go (B := T2.setTop (mkF m 14 #[.val (.ref (A 21))] [])) (fun _ k => Jvm.RoadKit.acmp (g := (mkF m 11 #[.val (.ref (A 21))] [(.ref (A 15)), (.ref (A 21))])) X2 hx rfl rfl rfl (pc0 := 11) (pc' := 14) (same := false) rfl (hb hby d2_11) rfl (decide_eq_false fun q => (own_ne F_COMPLEMENT_precedence F_XOR_precedence (by decide)) (Value.ref.inj q)) (by decide) (by decide) k) ?_
  refine own_go (B := T2.setTop (mkF m 15 #[.val (.ref (A 21))] [(.ref (A 21))])) (fun _ k => XS.aloadN X2.here hx rfl (hb hby d2_14) rfl rfl k) ?_
  obtain ⟨T3, X3, e3, st3⟩ := getS2 X2 hx hZ hown (host := "") (Or.inl (hw _ (List.mem_of_getElem? (i := 73) rfl))) Via.refl e2 (S_OR.ext x0) (g := (mkF m 15 #[.val (.ref (A 21))] [(.ref (A 21))])) rfl (hb hby d2_15)
  refine own_go (B := T3.setTop (mkF m 18 #[.val (.ref (A 21))] [(.ref (A 16)), (.ref (A 21))])) st3 ?_
  refine own_go (B := T3.setTop (mkF m 25 #[.val (.ref (A 21))] [])) (fun _ k => Jvm.RoadKit.acmp (g := (mkF m 18 #[.val (.ref (A 21))] [(.ref (A 16)), (.ref (A 21))])) X3 hx rfl rfl rfl (pc0 := 18) (pc' := 25) (same := false) rfl (hb hby d2_18) rfl (decide_eq_false fun q => (own_ne F_COMPLEMENT_precedence F_OR_precedence (by decide)) (Value.ref.inj q)) (by decide) (by decide) k) ?_
  refine own_go (B := T3.setTop (mkF m 26 #[.val (.ref (A 21))] [(.int (0 : Int32))])) (fun _ k => XT.iconstV X3.here hx rfl (0 : Int32) (hb hby d2_25) rfl k) ?_
  exact own_ret X3 hx (t := .boolean) hrt rfl (Or.inl ⟨rfl, by simp, _, rfl⟩) (hb hby d2_26) hlk ⟨rfl, N0, e3⟩ (by decide) (by decide)
set_option maxRecDepth 65536 in
set_option maxHeartbeats 40000000 in
theorem rm1_22 (l : Launch) (Z : State) (a0 : Array Value) (hw : ∀ d ∈ tables_1, d.before a0 Z = true) (ws : List Jvm.Cond)  (A : Nat → Addr) (hW : own_W Z A) (h0 : Heap) (x0 : Ext Z.heap h0)  :
    own_Met l Z (⟨"com/example/kilnbyte/kilnbyte/tree/Operator", "precedence", "()I"⟩ : MethodName) prog_214_method_5_code 1 (some .int) ws ({ frames := 0, cells := 0, slots := 0, locals := 0 } : Room) #[(.ref (A 22))] h0 (fun v_ h_ L_ => v_ = some (.int (0 : Int32)) ∧ Fr Z.heap.size L_ ∧ h_ = h0) := by
  refine own_body (plainFor_of_name pn_1) fun p e s m below meth c s₁ hx hby hml hown hnm hlk hrt hZ X0 e0 => ?_
  have N0 := Fr.nil Z.heap.size
  have F_NOT_precedence := own_w_F_NOT_precedence hW
  refine own_go (B := s₁.setTop (mkF m 0 #[.val (.ref (A 22))] [])) (fun t k => castTop (ef_1 m (A 22)) k) ?_
  refine own_go (B := s₁.setTop (mkF m 1 #[.val (.ref (A 22))] [(.ref (A 22))])) (fun _ k => XS.aloadN X0.here hx rfl (hb hby d1_0) rfl rfl k) ?_
  obtain ⟨T1, X1, e1, st1⟩ := getF X0 hx hZ hown (host := "") (Or.inl (hw _ (List.mem_of_getElem? (i := 64) rfl))) Via.refl e0 (F_NOT_precedence.ext x0) (g := (mkF m 1 #[.val (.ref (A 22))] [(.ref (A 22))])) rfl rfl (hb hby d1_1)
  refine own_go (B := T1.setTop (mkF m 4 #[.val (.ref (A 22))] [(.int (0 : Int32))])) st1 ?_
  exact own_ret X1 hx (t := .int) hrt rfl (Or.inl ⟨rfl, by simp, _, rfl⟩) (hb hby d1_4) hlk ⟨rfl, N0, e1⟩ (by decide) (by decide)
set_option maxRecDepth 65536 in
set_option maxHeartbeats 40000000 in
theorem rm2_22 (l : Launch) (Z : State) (a0 : Array Value) (hw : ∀ d ∈ tables_1, d.before a0 Z = true) (ws : List Jvm.Cond)  (A : Nat → Addr) (hW : own_W Z A) (h0 : Heap) (x0 : Ext Z.heap h0)  :
    own_Met l Z (⟨"com/example/kilnbyte/kilnbyte/tree/Operator", "isBitwise", "()Z"⟩ : MethodName) prog_214_method_10_code 1 (some .boolean) ws ({ frames := 0, cells := 0, slots := 0, locals := 0 } : Room) #[(.ref (A 22))] h0 (fun v_ h_ L_ => v_ = some (.int (0 : Int32)) ∧ Fr Z.heap.size L_ ∧ h_ = h0) := by
  refine own_body (plainFor_of_name pn_1) fun p e s m below meth c s₁ hx hby hml hown hnm hlk hrt hZ X0 e0 => ?_
  have N0 := Fr.nil Z.heap.size
  have S_AND := own_w_S_AND hW
  have S_XOR := own_w_S_XOR hW
  have S_OR := own_w_S_OR hW
  have F_NOT_precedence := own_w_F_NOT_precedence hW
  have F_XOR_precedence := own_w_F_XOR_precedence hW
  have F_OR_precedence := own_w_F_OR_precedence hW
  have F_AND_precedence := own_w_F_AND_precedence hW
  refine own_go (B := s₁.setTop (mkF m 0 #[.val (.ref (A 22))] [])) (fun t k => castTop (ef_2 m (A 22)) k) ?_
  refine own_go (B := s₁.setTop (mkF m 1 #[.val (.ref (A 22))] [(.ref (A 22))])) (fun _ k => XS.aloadN X0.here hx rfl (hb hby d2_0) rfl rfl k) ?_
  obtain ⟨T1, X1, e1, st1⟩ := getS2 X0 hx hZ hown (host := "") (Or.inl (hw _ (List.mem_of_getElem? (i := 71) rfl))) Via.refl e0 (S_AND.ext x0) (g := (mkF m 1 #[.val (.ref (A 22))] [(.ref (A 22))])) rfl (hb hby d2_1)
  refine own_go (B := T1.setTop (mkF m 4 #[.val (.ref (A 22))] [(.ref (A 14)), (.ref (A 22))])) st1 ?_
  refine own_go (B := T1.setTop (mkF m 7 #[.val (.ref (A 22))] [])) (fun _ k => Jvm.RoadKit.acmp (g := (mkF m 4 #[.val (.ref (A 22))] [(.ref (A 14)), (.ref (A 22))])) X1 hx rfl rfl rfl (pc0 := 4) (pc' := 7) (same := false) rfl (hb hby d2_4) rfl (decide_eq_false fun q => (own_ne F_NOT_precedence F_AND_precedence (by decide)) (Value.ref.inj q)) (by decide) (by decide) k) ?_
  refine own_go (B := T1.setTop (mkF m 8 #[.val (.ref (A 22))] [(.ref (A 22))])) (fun _ k => XS.aloadN X1.here hx rfl (hb hby d2_7) rfl rfl k) ?_
  obtain ⟨T2, X2, e2, st2⟩ := getS2 X1 hx hZ hown (host := "") (Or.inl (hw _ (List.mem_of_getElem? (i := 72) rfl))) Via.refl e1 (S_XOR.ext x0) (g := (mkF m 8 #[.val (.ref (A 22))] [(.ref (A 22))])) rfl (hb hby d2_8)
  refine own_go (B := T2.setTop (mkF m 11 #[.val (.ref (A 22))] [(.ref (A 15)), (.ref (A 22))])) st2 ?_
  refine own_go (B := T2.setTop (mkF m 14 #[.val (.ref (A 22))] [])) (fun _ k => Jvm.RoadKit.acmp (g := (mkF m 11 #[.val (.ref (A 22))] [(.ref (A 15)), (.ref (A 22))])) X2 hx rfl rfl rfl (pc0 := 11) (pc' := 14) (same := false) rfl (hb hby d2_11) rfl (decide_eq_false fun q => (own_ne F_NOT_precedence F_XOR_precedence (by decide)) (Value.ref.inj q)) (by decide) (by decide) k) ?_
  refine own_go (B := T2.setTop (mkF m 15 #[.val (.ref (A 22))] [(.ref (A 22))])) (fun _ k => XS.aloadN X2.here hx rfl (hb hby d2_14) rfl rfl k) ?_
  obtain ⟨T3, X3, e3, st3⟩ := getS2 X2 hx hZ hown (host := "") (Or.inl (hw _ (List.mem_of_getElem? (i := 73) rfl))) Via.refl e2 (S_OR.ext x0) (g := (mkF m 15 #[.val (.ref (A 22))] [(.ref (A 22))])) rfl (hb hby d2_15)
  refine own_go (B := T3.setTop (mkF m 18 #[.val (.ref (A 22))] [(.ref (A 16)), (.ref (A 22))])) st3 ?_
  refine own_go (B := T3.setTop (mkF m 25 #[.val (.ref (A 22))] [])) (fun _ k => Jvm.RoadKit.acmp (g := (mkF m 18 #[.val (.ref (A 22))] [(.ref (A 16)), (.ref (A 22))])) X3 hx rfl rfl rfl (pc0 := 18) (pc' := 25) (same := false) rfl (hb hby d2_18) rfl (decide_eq_false fun q => (own_ne F_NOT_precedence F_OR_precedence (by decide)) (Value.ref.inj q)) (by decide) (by decide) k) ?_
  refine own_go (B := T3.setTop (mkF m 26 #[.val (.ref (A 22))] [(.int (0 : Int32))])) (fun _ k => XT.iconstV X3.here hx rfl (0 : Int32) (hb hby d2_25) rfl k) ?_
  exact own_ret X3 hx (t := .boolean) hrt rfl (Or.inl ⟨rfl, by simp, _, rfl⟩) (hb hby d2_26) hlk ⟨rfl, N0, e3⟩ (by decide) (by decide)
set_option maxRecDepth 65536 in
set_option maxHeartbeats 40000000 in
theorem rm1_23 (l : Launch) (Z : State) (a0 : Array Value) (hw : ∀ d ∈ tables_1, d.before a0 Z = true) (ws : List Jvm.Cond)  (A : Nat → Addr) (hW : own_W Z A) (h0 : Heap) (x0 : Ext Z.heap h0)  :
    own_Met l Z (⟨"com/example/kilnbyte/kilnbyte/tree/Operator", "precedence", "()I"⟩ : MethodName) prog_214_method_5_code 1 (some .int) ws ({ frames := 0, cells := 0, slots := 0, locals := 0 } : Room) #[(.ref (A 23))] h0 (fun v_ h_ L_ => v_ = some (.int (0 : Int32)) ∧ Fr Z.heap.size L_ ∧ h_ = h0) := by
  refine own_body (plainFor_of_name pn_1) fun p e s m below meth c s₁ hx hby hml hown hnm hlk hrt hZ X0 e0 => ?_
  have N0 := Fr.nil Z.heap.size
  have F_PRE_INCREMENT_precedence := own_w_F_PRE_INCREMENT_precedence hW
  refine own_go (B := s₁.setTop (mkF m 0 #[.val (.ref (A 23))] [])) (fun t k => castTop (ef_1 m (A 23)) k) ?_
  refine own_go (B := s₁.setTop (mkF m 1 #[.val (.ref (A 23))] [(.ref (A 23))])) (fun _ k => XS.aloadN X0.here hx rfl (hb hby d1_0) rfl rfl k) ?_
  obtain ⟨T1, X1, e1, st1⟩ := getF X0 hx hZ hown (host := "") (Or.inl (hw _ (List.mem_of_getElem? (i := 64) rfl))) Via.refl e0 (F_PRE_INCREMENT_precedence.ext x0) (g := (mkF m 1 #[.val (.ref (A 23))] [(.ref (A 23))])) rfl rfl (hb hby d1_1)
  refine own_go (B := T1.setTop (mkF m 4 #[.val (.ref (A 23))] [(.int (0 : Int32))])) st1 ?_
  exact own_ret X1 hx (t := .int) hrt rfl (Or.inl ⟨rfl, by simp, _, rfl⟩) (hb hby d1_4) hlk ⟨rfl, N0, e1⟩ (by decide) (by decide)
set_option maxRecDepth 65536 in
set_option maxHeartbeats 40000000 in
theorem rm2_23 (l : Launch) (Z : State) (a0 : Array Value) (hw : ∀ d ∈ tables_1, d.before a0 Z = true) (ws : List Jvm.Cond)  (A : Nat → Addr) (hW : own_W Z A) (h0 : Heap) (x0 : Ext Z.heap h0)  :
    own_Met l Z (⟨"com/example/kilnbyte/kilnbyte/tree/Operator", "isBitwise", "()Z"⟩ : MethodName) prog_214_method_10_code 1 (some .boolean) ws ({ frames := 0, cells := 0, slots := 0, locals := 0 } : Room) #[(.ref (A 23))] h0 (fun v_ h_ L_ => v_ = some (.int (0 : Int32)) ∧ Fr Z.heap.size L_ ∧ h_ = h0) := by
  refine own_body (plainFor_of_name pn_1) fun p e s m below meth c s₁ hx hby hml hown hnm hlk hrt hZ X0 e0 => ?_
  have N0 := Fr.nil Z.heap.size
  have S_AND := own_w_S_AND hW
  have S_XOR := own_w_S_XOR hW
  have S_OR := own_w_S_OR hW
  have F_XOR_precedence := own_w_F_XOR_precedence hW
  have F_OR_precedence := own_w_F_OR_precedence hW
  have F_AND_precedence := own_w_F_AND_precedence hW
  have F_PRE_INCREMENT_precedence := own_w_F_PRE_INCREMENT_precedence hW
  refine own_go (B := s₁.setTop (mkF m 0 #[.val (.ref (A 23))] [])) (fun t k => castTop (ef_2 m (A 23)) k) ?_
  refine own_go (B := s₁.setTop (mkF m 1 #[.val (.ref (A 23))] [(.ref (A 23))])) (fun _ k => XS.aloadN X0.here hx rfl (hb hby d2_0) rfl rfl k) ?_
  obtain ⟨T1, X1, e1, st1⟩ := getS2 X0 hx hZ hown (host := "") (Or.inl (hw _ (List.mem_of_getElem? (i := 71) rfl))) Via.refl e0 (S_AND.ext x0) (g := (mkF m 1 #[.val (.ref (A 23))] [(.ref (A 23))])) rfl (hb hby d2_1)
  refine own_go (B := T1.setTop (mkF m 4 #[.val (.ref (A 23))] [(.ref (A 14)), (.ref (A 23))])) st1 ?_
  refine own_go (B := T1.setTop (mkF m 7 #[.val (.ref (A 23))] [])) (fun _ k => Jvm.RoadKit.acmp (g := (mkF m 4 #[.val (.ref (A 23))] [(.ref (A 14)), (.ref (A 23))])) X1 hx rfl rfl rfl (pc0 := 4) (pc' := 7) (same := false) rfl (hb hby d2_4) rfl (decide_eq_false fun q => (own_ne F_PRE_INCREMENT_precedence F_AND_precedence (by decide)) (Value.ref.inj q)) (by decide) (by decide) k) ?_
  refine own_go (B := T1.setTop (mkF m 8 #[.val (.ref (A 23))] [(.ref (A 23))])) (fun _ k => XS.aloadN X1.here hx rfl (hb hby d2_7) rfl rfl k) ?_
  obtain ⟨T2, X2, e2, st2⟩ := getS2 X1 hx hZ hown (host := "") (Or.inl (hw _ (List.mem_of_getElem? (i := 72) rfl))) Via.refl e1 (S_XOR.ext x0) (g := (mkF m 8 #[.val (.ref (A 23))] [(.ref (A 23))])) rfl (hb hby d2_8)
  refine own_go (B := T2.setTop (mkF m 11 #[.val (.ref (A 23))] [(.ref (A 15)), (.ref (A 23))])) st2 ?_
  refine own_go (B := T2.setTop (mkF m 14 #[.val (.ref (A 23))] [])) (fun _ k => Jvm.RoadKit.acmp (g := (mkF m 11 #[.val (.ref (A 23))] [(.ref (A 15)), (.ref (A 23))])) X2 hx rfl rfl rfl (pc0 := 11) (pc' := 14) (same := false) rfl (hb hby d2_11) rfl (decide_eq_false fun q => (own_ne F_PRE_INCREMENT_precedence F_XOR_precedence (by decide)) (Value.ref.inj q)) (by decide) (by decide) k) ?_
  refine own_go (B := T2.setTop (mkF m 15 #[.val (.ref (A 23))] [(.ref (A 23))])) (fun _ k => XS.aloadN X2.here hx rfl (hb hby d2_14) rfl rfl k) ?_
  obtain ⟨T3, X3, e3, st3⟩ := getS2 X2 hx hZ hown (host := "") (Or.inl (hw _ (List.mem_of_getElem? (i := 73) rfl))) Via.refl e2 (S_OR.ext x0) (g := (mkF m 15 #[.val (.ref (A 23))] [(.ref (A 23))])) rfl (hb hby d2_15)
  refine own_go (B := T3.setTop (mkF m 18 #[.val (.ref (A 23))] [(.ref (A 16)), (.ref (A 23))])) st3 ?_
  refine own_go (B := T3.setTop (mkF m 25 #[.val (.ref (A 23))] [])) (fun _ k => Jvm.RoadKit.acmp (g := (mkF m 18 #[.val (.ref (A 23))] [(.ref (A 16)), (.ref (A 23))])) X3 hx rfl rfl rfl (pc0 := 18) (pc' := 25) (same := false) rfl (hb hby d2_18) rfl (decide_eq_false fun q => (own_ne F_PRE_INCREMENT_precedence F_OR_precedence (by decide)) (Value.ref.inj q)) (by decide) (by decide) k) ?_
  refine own_go (B := T3.setTop (mkF m 26 #[.val (.ref (A 23))] [(.int (0 : Int32))])) (fun _ k => XT.iconstV X3.here hx rfl (0 : Int32) (hb hby d2_25) rfl k) ?_
  exact own_ret X3 hx (t := .boolean) hrt rfl (Or.inl ⟨rfl, by simp, _, rfl⟩) (hb hby d2_26) hlk ⟨rfl, N0, e3⟩ (by decide) (by decide)
set_option maxRecDepth 65536 in
set_option maxHeartbeats 40000000 in
theorem rm1_24 (l : Launch) (Z : State) (a0 : Array Value) (hw : ∀ d ∈ tables_1, d.before a0 Z = true) (ws : List Jvm.Cond)  (A : Nat → Addr) (hW : own_W Z A) (h0 : Heap) (x0 : Ext Z.heap h0)  :
    own_Met l Z (⟨"com/example/kilnbyte/kilnbyte/tree/Operator", "precedence", "()I"⟩ : MethodName) prog_214_method_5_code 1 (some .int) ws ({ frames := 0, cells := 0, slots := 0, locals := 0 } : Room) #[(.ref (A 24))] h0 (fun v_ h_ L_ => v_ = some (.int (0 : Int32)) ∧ Fr Z.heap.size L_ ∧ h_ = h0) := by
  refine own_body (plainFor_of_name pn_1) fun p e s m below meth c s₁ hx hby hml hown hnm hlk hrt hZ X0 e0 => ?_
  have N0 := Fr.nil Z.heap.size
  have F_PRE_DECREMENT_precedence := own_w_F_PRE_DECREMENT_precedence hW
  refine own_go (B := s₁.setTop (mkF m 0 #[.val (.ref (A 24))] [])) (fun t k => castTop (ef_1 m (A 24)) k) ?_
  refine own_go (B := s₁.setTop (mkF m 1 #[.val (.ref (A 24))] [(.ref (A 24))])) (fun _ k => XS.aloadN X0.here hx rfl (hb hby d1_0) rfl rfl k) ?_
  obtain ⟨T1, X1, e1, st1⟩ := getF X0 hx hZ hown (host := "") (Or.inl (hw _ (List.mem_of_getElem? (i := 64) rfl))) Via.refl e0 (F_PRE_DECREMENT_precedence.ext x0) (g := (mkF m 1 #[.val (.ref (A 24))] [(.ref (A 24))])) rfl rfl (hb hby d1_1)
  refine own_go (B := T1.setTop (mkF m 4 #[.val (.ref (A 24))] [(.int (0 : Int32))])) st1 ?_
  exact own_ret X1 hx (t := .int) hrt rfl (Or.inl ⟨rfl, by simp, _, rfl⟩) (hb hby d1_4) hlk ⟨rfl, N0, e1⟩ (by decide) (by decide)
set_option maxRecDepth 65536 in
set_option maxHeartbeats 40000000 in
theorem rm2_24 (l : Launch) (Z : State) (a0 : Array Value) (hw : ∀ d ∈ tables_1, d.before a0 Z = true) (ws : List Jvm.Cond)  (A : Nat → Addr) (hW : own_W Z A) (h0 : Heap) (x0 : Ext Z.heap h0)  :
    own_Met l Z (⟨"com/example/kilnbyte/kilnbyte/tree/Operator", "isBitwise", "()Z"⟩ : MethodName) prog_214_method_10_code 1 (some .boolean) ws ({ frames := 0, cells := 0, slots := 0, locals := 0 } : Room) #[(.ref (A 24))] h0 (fun v_ h_ L_ => v_ = some (.int (0 : Int32)) ∧ Fr Z.heap.size L_ ∧ h_ = h0) := by
  refine own_body (plainFor_of_name pn_1) fun p e s m below meth c s₁ hx hby hml hown hnm hlk hrt hZ X0 e0 => ?_
  have N0 := Fr.nil Z.heap.size
  have S_AND := own_w_S_AND hW
  have S_XOR := own_w_S_XOR hW
  have S_OR := own_w_S_OR hW
  have F_XOR_precedence := own_w_F_XOR_precedence hW
  have F_OR_precedence := own_w_F_OR_precedence hW
  have F_AND_precedence := own_w_F_AND_precedence hW
  have F_PRE_DECREMENT_precedence := own_w_F_PRE_DECREMENT_precedence hW
  refine own_go (B := s₁.setTop (mkF m 0 #[.val (.ref (A 24))] [])) (fun t k => castTop (ef_2 m (A 24)) k) ?_
  refine own_go (B := s₁.setTop (mkF m 1 #[.val (.ref (A 24))] [(.ref (A 24))])) (fun _ k => XS.aloadN X0.here hx rfl (hb hby d2_0) rfl rfl k) ?_
  obtain ⟨T1, X1, e1, st1⟩ := getS2 X0 hx hZ hown (host := "") (Or.inl (hw _ (List.mem_of_getElem? (i := 71) rfl))) Via.refl e0 (S_AND.ext x0) (g := (mkF m 1 #[.val (.ref (A 24))] [(.ref (A 24))])) rfl (hb hby d2_1)
  refine own_go (B := T1.setTop (mkF m 4 #[.val (.ref (A 24))] [(.ref (A 14)), (.ref (A 24))])) st1 ?_
  refine own_go (B := T1.setTop (mkF m 7 #[.val (.ref (A 24))] [])) (fun _ k => Jvm.RoadKit.acmp (g := (mkF m 4 #[.val (.ref (A 24))] [(.ref (A 14)), (.ref (A 24))])) X1 hx rfl rfl rfl (pc0 := 4) (pc' := 7) (same := false) rfl (hb hby d2_4) rfl (decide_eq_false fun q => (own_ne F_PRE_DECREMENT_precedence F_AND_precedence (by decide)) (Value.ref.inj q)) (by decide) (by decide) k) ?_
  refine own_go (B := T1.setTop (mkF m 8 #[.val (.ref (A 24))] [(.ref (A 24))])) (fun _ k => XS.aloadN X1.here hx rfl (hb hby d2_7) rfl rfl k) ?_
  obtain ⟨T2, X2, e2, st2⟩ := getS2 X1 hx hZ hown (host := "") (Or.inl (hw _ (List.mem_of_getElem? (i := 72) rfl))) Via.refl e1 (S_XOR.ext x0) (g := (mkF m 8 #[.val (.ref (A 24))] [(.ref (A 24))])) rfl (hb hby d2_8)
  refine own_go (B := T2.setTop (mkF m 11 #[.val (.ref (A 24))] [(.ref (A 15)), (.ref (A 24))])) st2 ?_
  refine own_go (B := T2.setTop (mkF m 14 #[.val (.ref (A 24))] [])) (fun _ k => Jvm.RoadKit.acmp (g := (mkF m 11 #[.val (.ref (A 24))] [(.ref (A 15)), (.ref (A 24))])) X2 hx rfl rfl rfl (pc0 := 11) (pc' := 14) (same := false) rfl (hb hby d2_11) rfl (decide_eq_false fun q => (own_ne F_PRE_DECREMENT_precedence F_XOR_precedence (by decide)) (Value.ref.inj q)) (by decide) (by decide) k) ?_
  refine own_go (B := T2.setTop (mkF m 15 #[.val (.ref (A 24))] [(.ref (A 24))])) (fun _ k => XS.aloadN X2.here hx rfl (hb hby d2_14) rfl rfl k) ?_
  obtain ⟨T3, X3, e3, st3⟩ := getS2 X2 hx hZ hown (host := "") (Or.inl (hw _ (List.mem_of_getElem? (i := 73) rfl))) Via.refl e2 (S_OR.ext x0) (g := (mkF m 15 #[.val (.ref (A 24))] [(.ref (A 24))])) rfl (hb hby d2_15)
  refine own_go (B := T3.setTop (mkF m 18 #[.val (.ref (A 24))] [(.ref (A 16)), (.ref (A 24))])) st3 ?_
  refine own_go (B := T3.setTop (mkF m 25 #[.val (.ref (A 24))] [])) (fun _ k => Jvm.RoadKit.acmp (g := (mkF m 18 #[.val (.ref (A 24))] [(.ref (A 16)), (.ref (A 24))])) X3 hx rfl rfl rfl (pc0 := 18) (pc' := 25) (same := false) rfl (hb hby d2_18) rfl (decide_eq_false fun q => (own_ne F_PRE_DECREMENT_precedence F_OR_precedence (by decide)) (Value.ref.inj q)) (by decide) (by decide) k) ?_
  refine own_go (B := T3.setTop (mkF m 26 #[.val (.ref (A 24))] [(.int (0 : Int32))])) (fun _ k => XT.iconstV X3.here hx rfl (0 : Int32) (hb hby d2_25) rfl k) ?_
  exact own_ret X3 hx (t := .boolean) hrt rfl (Or.inl ⟨rfl, by simp, _, rfl⟩) (hb hby d2_26) hlk ⟨rfl, N0, e3⟩ (by decide) (by decide)
set_option maxRecDepth 65536 in
set_option maxHeartbeats 40000000 in
theorem rm1_25 (l : Launch) (Z : State) (a0 : Array Value) (hw : ∀ d ∈ tables_1, d.before a0 Z = true) (ws : List Jvm.Cond)  (A : Nat → Addr) (hW : own_W Z A) (h0 : Heap) (x0 : Ext Z.heap h0)  :
    own_Met l Z (⟨"com/example/kilnbyte/kilnbyte/tree/Operator", "precedence", "()I"⟩ : MethodName) prog_214_method_5_code 1 (some .int) ws ({ frames := 0, cells := 0, slots := 0, locals := 0 } : Room) #[(.ref (A 25))] h0 (fun v_ h_ L_ => v_ = some (.int (0 : Int32)) ∧ Fr Z.heap.size L_ ∧ h_ = h0) := by
  refine own_body (plainFor_of_name pn_1) fun p e s m below meth c s₁ hx hby hml hown hnm hlk hrt hZ X0 e0 => ?_
  have N0 := Fr.nil Z.heap.size
  have F_POST_INCREMENT_precedence := own_w_F_POST_INCREMENT_precedence hW
  refine own_go (B := s₁.setTop (mkF m 0 #[.val (.ref (A 25))] [])) (fun t k => castTop (ef_1 m (A 25)) k) ?_
  refine own_go (B := s₁.setTop (mkF m 1 #[.val (.ref (A 25))] [(.ref (A 25))])) (fun _ k => XS.aloadN X0.here hx rfl (hb hby d1_0) rfl rfl k) ?_
  obtain ⟨T1, X1, e1, st1⟩ := getF X0 hx hZ hown (host := "") (Or.inl (hw _ (List.mem_of_getElem? (i := 64) rfl))) Via.refl e0 (F_POST_INCREMENT_precedence.ext x0) (g := (mkF m 1 #[.val (.ref (A 25))] [(.ref (A 25))])) rfl rfl (hb hby d1_1)
  refine own_go (B := T1.setTop (mkF m 4 #[.val (.ref (A 25))] [(.int (0 : Int32))])) st1 ?_
  exact own_ret X1 hx (t := .int) hrt rfl (Or.inl ⟨rfl, by simp, _, rfl⟩) (hb hby d1_4) hlk ⟨rfl, N0, e1⟩ (by decide) (by decide)
set_option maxRecDepth 65536 in
set_option maxHeartbeats 40000000 in
theorem rm2_25 (l : Launch) (Z : State) (a0 : Array Value) (hw : ∀ d ∈ tables_1, d.before a0 Z = true) (ws : List Jvm.Cond)  (A : Nat → Addr) (hW : own_W Z A) (h0 : Heap) (x0 : Ext Z.heap h0)  :
    own_Met l Z (⟨"com/example/kilnbyte/kilnbyte/tree/Operator", "isBitwise", "()Z"⟩ : MethodName) prog_214_method_10_code 1 (some .boolean) ws ({ frames := 0, cells := 0, slots := 0, locals := 0 } : Room) #[(.ref (A 25))] h0 (fun v_ h_ L_ => v_ = some (.int (0 : Int32)) ∧ Fr Z.heap.size L_ ∧ h_ = h0) := by
  refine own_body (plainFor_of_name pn_1) fun p e s m below meth c s₁ hx hby hml hown hnm hlk hrt hZ X0 e0 => ?_
  have N0 := Fr.nil Z.heap.size
  have S_AND := own_w_S_AND hW
  have S_XOR := own_w_S_XOR hW
  have S_OR := own_w_S_OR hW
  have F_POST_INCREMENT_precedence := own_w_F_POST_INCREMENT_precedence hW
  have F_XOR_precedence := own_w_F_XOR_precedence hW
  have F_OR_precedence := own_w_F_OR_precedence hW
  have F_AND_precedence := own_w_F_AND_precedence hW
  refine own_go (B := s₁.setTop (mkF m 0 #[.val (.ref (A 25))] [])) (fun t k => castTop (ef_2 m (A 25)) k) ?_
  refine own_go (B := s₁.setTop (mkF m 1 #[.val (.ref (A 25))] [(.ref (A 25))])) (fun _ k => XS.aloadN X0.here hx rfl (hb hby d2_0) rfl rfl k) ?_
  obtain ⟨T1, X1, e1, st1⟩ := getS2 X0 hx hZ hown (host := "") (Or.inl (hw _ (List.mem_of_getElem? (i := 71) rfl))) Via.refl e0 (S_AND.ext x0) (g := (mkF m 1 #[.val (.ref (A 25))] [(.ref (A 25))])) rfl (hb hby d2_1)
  refine own_go (B := T1.setTop (mkF m 4 #[.val (.ref (A 25))] [(.ref (A 14)), (.ref (A 25))])) st1 ?_
  refine own_go (B := T1.setTop (mkF m 7 #[.val (.ref (A 25))] [])) (fun _ k => Jvm.RoadKit.acmp (g := (mkF m 4 #[.val (.ref (A 25))] [(.ref (A 14)), (.ref (A 25))])) X1 hx rfl rfl rfl (pc0 := 4) (pc' := 7) (same := false) rfl (hb hby d2_4) rfl (decide_eq_false fun q => (own_ne F_POST_INCREMENT_precedence F_AND_precedence (by decide)) (Value.ref.inj q)) (by decide) (by decide) k) ?_
  refine own_go (B := T1.setTop (mkF m 8 #[.val (.ref (A 25))] [(.ref (A 25))])) (fun _ k => XS.aloadN X1.here hx rfl (hb hby d2_7) rfl rfl k) ?_
  obtain ⟨T2, X2, e2, st2⟩ := getS2 X1 hx hZ hown (host := "") (Or.inl (hw _ (List.mem_of_getElem? (i := 72) rfl))) Via.refl e1 (S_XOR.ext x0) (g := (mkF m 8 #[.val (.ref (A 25))] [(.ref (A 25))])) rfl (hb hby d2_8)
  refine own_go (B := T2.setTop (mkF m 11 #[.val (.ref (A 25))] [(.ref (A 15)), (.ref (A 25))])) st2 ?_
  refine own_go (B := T2.setTop (mkF m 14 #[.val (.ref (A 25))] [])) (fun _ k => Jvm.RoadKit.acmp (g := (mkF m 11 #[.val (.ref (A 25))] [(.ref (A 15)), (.ref (A 25))])) X2 hx rfl rfl rfl (pc0 := 11) (pc' := 14) (same := false) rfl (hb hby d2_11) rfl (decide_eq_false fun q => (own_ne F_POST_INCREMENT_precedence F_XOR_precedence (by decide)) (Value.ref.inj q)) (by decide) (by decide) k) ?_
  refine own_go (B := T2.setTop (mkF m 15 #[.val (.ref (A 25))] [(.ref (A 25))])) (fun _ k => XS.aloadN X2.here hx rfl (hb hby d2_14) rfl rfl k) ?_
  obtain ⟨T3, X3, e3, st3⟩ := getS2 X2 hx hZ hown (host := "") (Or.inl (hw _ (List.mem_of_getElem? (i := 73) rfl))) Via.refl e2 (S_OR.ext x0) (g := (mkF m 15 #[.val (.ref (A 25))] [(.ref (A 25))])) rfl (hb hby d2_15)
  refine own_go (B := T3.setTop (mkF m 18 #[.val (.ref (A 25))] [(.ref (A 16)), (.ref (A 25))])) st3 ?_
  refine own_go (B := T3.setTop (mkF m 25 #[.val (.ref (A 25))] [])) (fun _ k => Jvm.RoadKit.acmp (g := (mkF m 18 #[.val (.ref (A 25))] [(.ref (A 16)), (.ref (A 25))])) X3 hx rfl rfl rfl (pc0 := 18) (pc' := 25) (same := false) rfl (hb hby d2_18) rfl (decide_eq_false fun q => (own_ne F_POST_INCREMENT_precedence F_OR_precedence (by decide)) (Value.ref.inj q)) (by decide) (by decide) k) ?_
  refine own_go (B := T3.setTop (mkF m 26 #[.val (.ref (A 25))] [(.int (0 : Int32))])) (fun _ k => XT.iconstV X3.here hx rfl (0 : Int32) (hb hby d2_25) rfl k) ?_
  exact own_ret X3 hx (t := .boolean) hrt rfl (Or.inl ⟨rfl, by simp, _, rfl⟩) (hb hby d2_26) hlk ⟨rfl, N0, e3⟩ (by decide) (by decide)
set_option maxRecDepth 65536 in
set_option maxHeartbeats 40000000 in
theorem rm1_26 (l : Launch) (Z : State) (a0 : Array Value) (hw : ∀ d ∈ tables_1, d.before a0 Z = true) (ws : List Jvm.Cond)  (A : Nat → Addr) (hW : own_W Z A) (h0 : Heap) (x0 : Ext Z.heap h0)  :
    own_Met l Z (⟨"com/example/kilnbyte/kilnbyte/tree/Operator", "precedence", "()I"⟩ : MethodName) prog_214_method_5_code 1 (some .int) ws ({ frames := 0, cells := 0, slots := 0, locals := 0 } : Room) #[(.ref (A 26))] h0 (fun v_ h_ L_ => v_ = some (.int (0 : Int32)) ∧ Fr Z.heap.size L_ ∧ h_ = h0) := by
  refine own_body (plainFor_of_name pn_1) fun p e s m below meth c s₁ hx hby hml hown hnm hlk hrt hZ X0 e0 => ?_
  have N0 := Fr.nil Z.heap.size
  have F_POST_DECREMENT_precedence := own_w_F_POST_DECREMENT_precedence hW
  refine own_go (B := s₁.setTop (mkF m 0 #[.val (.ref (A 26))] [])) (fun t k => castTop (ef_1 m (A 26)) k) ?_
  refine own_go (B := s₁.setTop (mkF m 1 #[.val (.ref (A 26))] [(.ref (A 26))])) (fun _ k => XS.aloadN X0.here hx rfl (hb hby d1_0) rfl rfl k) ?_
  obtain ⟨T1, X1, e1, st1⟩ := getF X0 hx hZ hown (host := "") (Or.inl (hw _ (List.mem_of_getElem? (i := 64) rfl))) Via.refl e0 (F_POST_DECREMENT_precedence.ext x0) (g := (mkF m 1 #[.val (.ref (A 26))] [(.ref (A 26))])) rfl rfl (hb hby d1_1)
  refine own_go (B := T1.setTop (mkF m 4 #[.val (.ref (A 26))] [(.int (0 : Int32))])) st1 ?_
  exact own_ret X1 hx (t := .int) hrt rfl (Or.inl ⟨rfl, by simp, _, rfl⟩) (hb hby d1_4) hlk ⟨rfl, N0, e1⟩ (by decide) (by decide)
set_option maxRecDepth 65536 in
set_option maxHeartbeats 40000000 in
theorem rm2_26 (l : Launch) (Z : State) (a0 : Array Value) (hw : ∀ d ∈ tables_1, d.before a0 Z = true) (ws : List Jvm.Cond)  (A : Nat → Addr) (hW : own_W Z A) (h0 : Heap) (x0 : Ext Z.heap h0)  :
    own_Met l Z (⟨"com/example/kilnbyte/kilnbyte/tree/Operator", "isBitwise", "()Z"⟩ : MethodName) prog_214_method_10_code 1 (some .boolean) ws ({ frames := 0, cells := 0, slots := 0, locals := 0 } : Room) #[(.ref (A 26))] h0 (fun v_ h_ L_ => v_ = some (.int (0 : Int32)) ∧ Fr Z.heap.size L_ ∧ h_ = h0) := by
  refine own_body (plainFor_of_name pn_1) fun p e s m below meth c s₁ hx hby hml hown hnm hlk hrt hZ X0 e0 => ?_
  have N0 := Fr.nil Z.heap.size
  have S_AND := own_w_S_AND hW
  have S_XOR := own_w_S_XOR hW
  have S_OR := own_w_S_OR hW
  have F_XOR_precedence := own_w_F_XOR_precedence hW
  have F_OR_precedence := own_w_F_OR_precedence hW
  have F_AND_precedence := own_w_F_AND_precedence hW
  have F_POST_DECREMENT_precedence := own_w_F_POST_DECREMENT_precedence hW
  refine own_go (B := s₁.setTop (mkF m 0 #[.val (.ref (A 26))] [])) (fun t k => castTop (ef_2 m (A 26)) k) ?_
  refine own_go (B := s₁.setTop (mkF m 1 #[.val (.ref (A 26))] [(.ref (A 26))])) (fun _ k => XS.aloadN X0.here hx rfl (hb hby d2_0) rfl rfl k) ?_
  obtain ⟨T1, X1, e1, st1⟩ := getS2 X0 hx hZ hown (host := "") (Or.inl (hw _ (List.mem_of_getElem? (i := 71) rfl))) Via.refl e0 (S_AND.ext x0) (g := (mkF m 1 #[.val (.ref (A 26))] [(.ref (A 26))])) rfl (hb hby d2_1)
  refine own_go (B := T1.setTop (mkF m 4 #[.val (.ref (A 26))] [(.ref (A 14)), (.ref (A 26))])) st1 ?_
  refine own_go (B := T1.setTop (mkF m 7 #[.val (.ref (A 26))] [])) (fun _ k => Jvm.RoadKit.acmp (g := (mkF m 4 #[.val (.ref (A 26))] [(.ref (A 14)), (.ref (A 26))])) X1 hx rfl rfl rfl (pc0 := 4) (pc' := 7) (same := false) rfl (hb hby d2_4) rfl (decide_eq_false fun q => (own_ne F_POST_DECREMENT_precedence F_AND_precedence (by decide)) (Value.ref.inj q)) (by decide) (by decide) k) ?_
  refine own_go (B := T1.setTop (mkF m 8 #[.val (.ref (A 26))] [(.ref (A 26))])) (fun _ k => XS.aloadN X1.here hx rfl (hb hby d2_7) rfl rfl k) ?_
  obtain ⟨T2, X2, e2, st2⟩ := getS2 X1 hx hZ hown (host := "") (Or.inl (hw _ (List.mem_of_getElem? (i := 72) rfl))) Via.refl e1 (S_XOR.ext x0) (g := (mkF m 8 #[.val (.ref (A 26))] [(.ref (A 26))])) rfl (hb hby d2_8)
  refine own_go (B := T2.setTop (mkF m 11 #[.val (.ref (A 26))] [(.ref (A 15)), (.ref (A 26))])) st2 ?_
  refine own_go (B := T2.setTop (mkF m 14 #[.val (.ref (A 26))] [])) (fun _ k => Jvm.RoadKit.acmp (g := (mkF m 11 #[.val (.ref (A 26))] [(.ref (A 15)), (.ref (A 26))])) X2 hx rfl rfl rfl (pc0 := 11) (pc' := 14) (same := false) rfl (hb hby d2_11) rfl (decide_eq_false fun q => (own_ne F_POST_DECREMENT_precedence F_XOR_precedence (by decide)) (Value.ref.inj q)) (by decide) (by decide) k) ?_
  refine own_go (B := T2.setTop (mkF m 15 #[.val (.ref (A 26))] [(.ref (A 26))])) (fun _ k => XS.aloadN X2.here hx rfl (hb hby d2_14) rfl rfl k) ?_
  obtain ⟨T3, X3, e3, st3⟩ := getS2 X2 hx hZ hown (host := "") (Or.inl (hw _ (List.mem_of_getElem? (i := 73) rfl))) Via.refl e2 (S_OR.ext x0) (g := (mkF m 15 #[.val (.ref (A 26))] [(.ref (A 26))])) rfl (hb hby d2_15)
  refine own_go (B := T3.setTop (mkF m 18 #[.val (.ref (A 26))] [(.ref (A 16)), (.ref (A 26))])) st3 ?_
  refine own_go (B := T3.setTop (mkF m 25 #[.val (.ref (A 26))] [])) (fun _ k => Jvm.RoadKit.acmp (g := (mkF m 18 #[.val (.ref (A 26))] [(.ref (A 16)), (.ref (A 26))])) X3 hx rfl rfl rfl (pc0 := 18) (pc' := 25) (same := false) rfl (hb hby d2_18) rfl (decide_eq_false fun q => (own_ne F_POST_DECREMENT_precedence F_OR_precedence (by decide)) (Value.ref.inj q)) (by decide) (by decide) k) ?_
  refine own_go (B := T3.setTop (mkF m 26 #[.val (.ref (A 26))] [(.int (0 : Int32))])) (fun _ k => XT.iconstV X3.here hx rfl (0 : Int32) (hb hby d2_25) rfl k) ?_
  exact own_ret X3 hx (t := .boolean) hrt rfl (Or.inl ⟨rfl, by simp, _, rfl⟩) (hb hby d2_26) hlk ⟨rfl, N0, e3⟩ (by decide) (by decide)
set_option maxRecDepth 65536 in
set_option maxHeartbeats 40000000 in
theorem rm0 (l : Launch) (Z : State) (a0 : Array Value) (hw : ∀ d ∈ tables_1, d.before a0 Z = true) (ws : List Jvm.Cond) (p0 : Int32) (A : Nat → Addr) (hW : own_W Z A) (h0 : Heap) (x0 : Ext Z.heap h0)  :
    own_Met l Z x code maxLocals ret ws room_1 #[(.int p0)] h0 (fun v_ h_ L_ => v_ = some (.int (1 : Int32)) ∧ Fr Z.heap.size L_) := by
  refine own_body (plainFor_of_name pn_0) fun p e s m below meth c s₁ hx hby hml hown hnm hlk hrt hZ X0 e0 => ?_
  have N0 := Fr.nil Z.heap.size
  have S_MULTIPLY := own_w_S_MULTIPLY hW
  have E_MULTIPLY := own_w_E_MULTIPLY hW
  have S_DIVIDE := own_w_S_DIVIDE hW
  have E_DIVIDE := own_w_E_DIVIDE hW
  have S_REMAINDER := own_w_S_REMAINDER hW
  have E_REMAINDER := own_w_E_REMAINDER hW
  have S_ADD := own_w_S_ADD hW
  have E_ADD := own_w_E_ADD hW
  have S_SUBTRACT := own_w_S_SUBTRACT hW
  have E_SUBTRACT := own_w_E_SUBTRACT hW
  have S_SHIFT_LEFT := own_w_S_SHIFT_LEFT hW
  have E_SHIFT_LEFT := own_w_E_SHIFT_LEFT hW
  have S_SHIFT_RIGHT := own_w_S_SHIFT_RIGHT hW
  have E_SHIFT_RIGHT := own_w_E_SHIFT_RIGHT hW
  have S_UNSIGNED_SHIFT_RIGHT := own_w_S_UNSIGNED_SHIFT_RIGHT hW
  have E_UNSIGNED_SHIFT_RIGHT := own_w_E_UNSIGNED_SHIFT_RIGHT hW
  have S_LESS := own_w_S_LESS hW
  have E_LESS := own_w_E_LESS hW
  have S_GREATER := own_w_S_GREATER hW
  have E_GREATER := own_w_E_GREATER hW
  have S_LESS_EQUAL := own_w_S_LESS_EQUAL hW
  have E_LESS_EQUAL := own_w_E_LESS_EQUAL hW
  have S_GREATER_EQUAL := own_w_S_GREATER_EQUAL hW
  have E_GREATER_EQUAL := own_w_E_GREATER_EQUAL hW
  have S_EQUAL := own_w_S_EQUAL hW
  have E_EQUAL := own_w_E_EQUAL hW
  have S_NOT_EQUAL := own_w_S_NOT_EQUAL hW
  have E_NOT_EQUAL := own_w_E_NOT_EQUAL hW
  have S_AND := own_w_S_AND hW
  have E_AND := own_w_E_AND hW
  have S_XOR := own_w_S_XOR hW
  have E_XOR := own_w_E_XOR hW
  have S_OR := own_w_S_OR hW
  have E_OR := own_w_E_OR hW
  have S_CONDITIONAL_AND := own_w_S_CONDITIONAL_AND hW
  have E_CONDITIONAL_AND := own_w_E_CONDITIONAL_AND hW
  have S_CONDITIONAL_OR := own_w_S_CONDITIONAL_OR hW
  have E_CONDITIONAL_OR := own_w_E_CONDITIONAL_OR hW
  have S_PLUS := own_w_S_PLUS hW
  have E_PLUS := own_w_E_PLUS hW
  have S_MINUS := own_w_S_MINUS hW
  have E_MINUS := own_w_E_MINUS hW
  have S_COMPLEMENT := own_w_S_COMPLEMENT hW
  have E_COMPLEMENT := own_w_E_COMPLEMENT hW
  have S_NOT := own_w_S_NOT hW
  have E_NOT := own_w_E_NOT hW
  have S_PRE_INCREMENT := own_w_S_PRE_INCREMENT hW
  have E_PRE_INCREMENT := own_w_E_PRE_INCREMENT hW
  have S_PRE_DECREMENT := own_w_S_PRE_DECREMENT hW
  have E_PRE_DECREMENT := own_w_E_PRE_DECREMENT hW
  have S_POST_INCREMENT := own_w_S_POST_INCREMENT hW
  have E_POST_INCREMENT := own_w_E_POST_INCREMENT hW
  have S_POST_DECREMENT := own_w_S_POST_DECREMENT hW
  have E_POST_DECREMENT := own_w_E_POST_DECREMENT hW
  refine own_go (B := s₁.setTop (mkF m 0 #[.val (.int p0), .unset, .unset, .unset, .unset, .unset] [])) (fun t k => castTop (ef_0 m p0) k) ?_
  suffices hT56 : ∀ (b56' : Addr) (k56' : ClassId) (T56' : State) (h56' : Heap) (L56' : List Loc), Stand p l e room_1 s m #[(.int p0)] below meth c T56' L56' 1 27 → T56'.heap = h56' → Ext Z.heap h56' → Fr Z.heap.size L56' → Z.heap.size ≤ b56' → Arv Z h56' b56' k56' (.object "com/example/kilnbyte/kilnbyte/tree/Operator") (27 : Int32) [.ref (A 0), .ref (A 1), .ref (A 2), .ref (A 3), .ref (A 4), .ref (A 5), .ref (A 6), .ref (A 7), .ref (A 8), .ref (A 9), .ref (A 10), .ref (A 11), .ref (A 12), .ref (A 13), .ref (A 14), .ref (A 15), .ref (A 16), .ref (A 17), .ref (A 18), .ref (A 19), .ref (A 20), .ref (A 21), .ref (A 22), .ref (A 23), .ref (A 24), .ref (A 25), .ref (A 26)] .null → own_G p.tables e below s (fun v_ h_ L_ => v_ = some (.int (1 : Int32)) ∧ Fr Z.heap.size L_) room_1.cells room_1.slots (T56'.setTop (mkF m 189 #[.val (.int p0), .val (.ref b56'), .unset, .unset, .unset, .unset] [])) by
    refine own_go (B := s₁.setTop (mkF m 2 #[.val (.int p0), .unset, .unset, .unset, .unset, .unset] [(.int (27 : Int32))])) (fun _ k => XT.bipushV X0.here hx rfl (27 : Int32) (hb hby at_0) (by decide) k) ?_
    obtain ⟨T1, h1, k1, X1, e1, E1, A1, O1, st1⟩ := newR X0 hx hZ hown (hw _ (List.mem_of_getElem? (i := 0) rfl)) (hw _ (List.mem_of_getElem? (i := 1) rfl)) e0 (g := (mkF m 2 #[.val (.int p0), .unset, .unset, .unset, .unset, .unset] [(.int (27 : Int32))])) rfl (hb hby at_2) rfl (by decide) (cap := 27) (by decide) (by decide) (by decide) (by decide)
    obtain ⟨b1, g1⟩ : ∃ z, z = h0.size := ⟨_, rfl⟩
    rw [← g1] at A1 st1
    have V1 : Arv Z h1 b1 k1 (.object "com/example/kilnbyte/kilnbyte/tree/Operator") (27 : Int32) [.null, .null, .null, .null, .null, .null, .null, .null, .null, .null, .null, .null, .null, .null, .null, .null, .null, .null, .null, .null, .null, .null, .null, .null, .null, .null, .null] .null := (Arv.new A1 (by decide)).pad (pad_rep [] .null 27)
    have x1 : Ext Z.heap h1 := own_xt x0 E1
    have q1 : Z.heap.size ≤ b1 := Nat.le_trans x0.1 (Nat.le_of_eq g1.symm)
    refine own_go (B := T1.setTop (mkF m 5 #[.val (.int p0), .unset, .unset, .unset, .unset, .unset] [(.ref b1)])) st1 ?_
    refine own_go (B := T1.setTop (mkF m 6 #[.val (.int p0), .unset, .unset, .unset, .unset, .unset] [(.ref b1), (.ref b1)])) (fun _ k => XS.dup X1.here hx rfl (hb hby at_5) rfl rfl k) ?_
    refine own_go (B := T1.setTop (mkF m 7 #[.val (.int p0), .unset, .unset, .unset, .unset, .unset] [(.int (0 : Int32)), (.ref b1), (.ref b1)])) (fun _ k => XT.iconstV X1.here hx rfl (0 : Int32) (hb hby at_6) rfl k) ?_
    obtain ⟨T2, X2, e2, st2⟩ := getS2 X1 hx hZ hown (host := "") (Or.inl (hw _ (List.mem_of_getElem? (i := 2) rfl))) Via.refl e1 (S_MULTIPLY.ext x1) (g := (mkF m 7 #[.val (.int p0), .unset, .unset, .unset, .unset, .unset] [(.int (0 : Int32)), (.ref b1), (.ref b1)])) rfl (hb hby at_7)
    refine own_go (B := T2.setTop (mkF m 10 #[.val (.int p0), .unset, .unset, .unset, .unset, .unset] [(.ref (A 0)), (.int (0 : Int32)), (.ref b1), (.ref b1)])) st2 ?_
    obtain ⟨cl3, Ar3, q3a, q3b, q3c, q3d, q3e⟩ := id V1
    obtain ⟨T3, h3, X3, e3, W3, st3⟩ := stR X2 hx hZ e2 Ar3 (j := (0 : Int32)) (inb_of q3b ⟨by decide, by decide⟩) rfl (Sto.ofV Ar3 q3a O1 (Ins.self (E_MULTIPLY.ext x1))) (g := (mkF m 10 #[.val (.int p0), .unset, .unset, .unset, .unset, .unset] [(.ref (A 0)), (.int (0 : Int32)), (.ref b1), (.ref b1)])) rfl rfl (hb hby at_10)
    have V3 : Arv Z h3 b1 k1 (.object "com/example/kilnbyte/kilnbyte/tree/Operator") (27 : Int32) [.ref (A 0), .null, .null, .null, .null, .null, .null, .null, .null, .null, .null, .null, .null, .null, .null, .null, .null, .null, .null, .null, .null, .null, .null, .null, .null, .null, .null] .null := Arv.set Ar3 q3a q3b q3c q3d q3e rfl W3 0 rfl (Nat.le_of_ble_eq_true rfl)
    have x3 : Ext Z.heap h3 := own_xw x1 W3 q1
    have N3 := Fr.snoc X3 N0 q1
    refine own_go (B := T3.setTop (mkF m 11 #[.val (.int p0), .unset, .unset, .unset, .unset, .unset] [(.ref b1)])) st3 ?_
    refine own_go (B := T3.setTop (mkF m 12 #[.val (.int p0), .unset, .unset, .unset, .unset, .unset] [(.ref b1), (.ref b1)])) (fun _ k => XS.dup X3.here hx rfl (hb hby at_11) rfl rfl k) ?_
    refine own_go (B := T3.setTop (mkF m 13 #[.val (.int p0), .unset, .unset, .unset, .unset, .unset] [(.int (1 : Int32)), (.ref b1), (.ref b1)])) (fun _ k => XT.iconstV X3.here hx rfl (1 : Int32) (hb hby at_12) rfl k) ?_
    obtain ⟨T4, X4, e4, st4⟩ := getS2 X3 hx hZ hown (host := "") (Or.inl (hw _ (List.mem_of_getElem? (i := 6) rfl))) Via.refl e3 (S_DIVIDE.ext x3) (g := (mkF m 13 #[.val (.int p0), .unset, .unset, .unset, .unset, .unset] [(.int (1 : Int32)), (.ref b1), (.ref b1)])) rfl (hb hby at_13)
    refine own_go (B := T4.setTop (mkF m 16 #[.val (.int p0), .unset, .unset, .unset, .unset, .unset] [(.ref (A 1)), (.int (1 : Int32)), (.ref b1), (.ref b1)])) st4 ?_
    obtain ⟨cl5, Ar5, q5a, q5b, q5c, q5d, q5e⟩ := id V3
    obtain ⟨T5, h5, X5, e5, W5, st5⟩ := stR X4 hx hZ e4 Ar5 (j := (1 : Int32)) (inb_of q5b ⟨by decide, by decide⟩) rfl (Sto.ofV Ar5 q5a O1 (Ins.self (E_DIVIDE.ext x3))) (g := (mkF m 16 #[.val (.int p0), .unset, .unset, .unset, .unset, .unset] [(.ref (A 1)), (.int (1 : Int32)), (.ref b1), (.ref b1)])) rfl rfl (hb hby at_16)
    have V5 : Arv Z h5 b1 k1 (.object "com/example/kilnbyte/kilnbyte/tree/Operator") (27 : Int32) [.ref (A 0), .ref (A 1), .null, .null, .null, .null, .null, .null, .null, .null, .null, .null, .null, .null, .null, .null, .null, .null, .null, .null, .null, .null, .null, .null, .null, .null, .null] .null := Arv.set Ar5 q5a q5b q5c q5d q5e rfl W5 1 rfl (Nat.le_of_ble_eq_true rfl)
    have x5 : Ext Z.heap h5 := own_xw x3 W5 q1
    have N5 := Fr.snoc X5 N3 q1
    refine own_go (B := T5.setTop (mkF m 17 #[.val (.int p0), .unset, .unset, .unset, .unset, .unset] [(.ref b1)])) st5 ?_
    refine own_go (B := T5.setTop (mkF m 18 #[.val (.int p0), .unset, .unset, .unset, .unset, .unset] [(.ref b1), (.ref b1)])) (fun _ k => XS.dup X5.here hx rfl (hb hby at_17) rfl rfl k) ?_
    refine own_go (B := T5.setTop (mkF m 19 #[.val (.int p0), .unset, .unset, .unset, .unset, .unset] [(.int (2 : Int32)), (.ref b1), (.ref b1)])) (fun _ k => XT.iconstV X5.here hx rfl (2 : Int32) (hb hby at_18) rfl k) ?_
    obtain ⟨T6, X6, e6, st6⟩ := getS2 X5 hx hZ hown (host := "") (Or.inl (hw _ (List.mem_of_getElem? (i := 8) rfl))) Via.refl e5 (S_REMAINDER.ext x5) (g := (mkF m 19 #[.val (.int p0), .unset, .unset, .unset, .unset, .unset] [(.int (2 : Int32)), (.ref b1), (.ref b1)])) rfl (hb hby at_19)
    refine own_go (B := T6.setTop (mkF m 22 #[.val (.int p0), .unset, .unset, .unset, .unset, .unset] [(.ref (A 2)), (.int (2 : Int32)), (.ref b1), (.ref b1)])) st6 ?_
    obtain ⟨cl7, Ar7, q7a, q7b, q7c, q7d, q7e⟩ := id V5
    obtain ⟨T7, h7, X7, e7, W7, st7⟩ := stR X6 hx hZ e6 Ar7 (j := (2 : Int32)) (inb_of q7b ⟨by decide, by decide⟩) rfl (Sto.ofV Ar7 q7a O1 (Ins.self (E_REMAINDER.ext x5))) (g := (mkF m 22 #[.val (.int p0), .unset, .unset, .unset, .unset, .unset] [(.ref (A 2)), (.int (2 : Int32)), (.ref b1), (.ref b1)])) rfl rfl (hb hby at_22)
    have V7 : Arv Z h7 b1 k1 (.object "com/example/kilnbyte/kilnbyte/tree/Operator") (27 : Int32) [.ref (A 0), .ref (A 1), .ref (A 2), .null, .null, .null, .null, .null, .null, .null, .null, .null, .null, .null, .null, .null, .null, .null, .null, .null, .null, .null, .null, .null, .null, .null, .null] .null := Arv.set Ar7 q7a q7b q7c q7d q7e rfl W7 2 rfl (Nat.le_of_ble_eq_true rfl)
    have x7 : Ext Z.heap h7 := own_xw x5 W7 q1
    have N7 := Fr.snoc X7 N5 q1
    refine own_go (B := T7.setTop (mkF m 23 #[.val (.int p0), .unset, .unset, .unset, .unset, .unset] [(.ref b1)])) st7 ?_
    refine own_go (B := T7.setTop (mkF m 24 #[.val (.int p0), .unset, .unset, .unset, .unset, .unset] [(.ref b1), (.ref b1)])) (fun _ k => XS.dup X7.here hx rfl (hb hby at_23) rfl rfl k) ?_
    refine own_go (B := T7.setTop (mkF m 25 #[.val (.int p0), .unset, .unset, .unset, .unset, .unset] [(.int (3 : Int32)), (.ref b1), (.ref b1)])) (fun _ k => XT.iconstV X7.here hx rfl (3 : Int32) (hb hby at_24) rfl k) ?_
    obtain ⟨T8, X8, e8, st8⟩ := getS2 X7 hx hZ hown (host := "") (Or.inl (hw _ (List.mem_of_getElem? (i := 10) rfl))) Via.refl e7 (S_ADD.ext x7) (g := (mkF m 25 #[.val (.int p0), .unset, .unset, .unset, .unset, .unset] [(.int (3 : Int32)), (.ref b1), (.ref b1)])) rfl (hb hby at_25)
    refine own_go (B := T8.setTop (mkF m 28 #[.val (.int p0), .unset, .unset, .unset, .unset, .unset] [(.ref (A 3)), (.int (3 : Int32)), (.ref b1), (.ref b1)])) st8 ?_
    obtain ⟨cl9, Ar9, q9a, q9b, q9c, q9d, q9e⟩ := id V7
    obtain ⟨T9, h9, X9, e9, W9, st9⟩ := stR X8 hx hZ e8 Ar9 (j := (3 : Int32)) (inb_of q9b ⟨by decide, by decide⟩) rfl (Sto.ofV Ar9 q9a O1 (Ins.self (E_ADD.ext x7))) (g := (mkF m 28 #[.val (.int p0), .unset, .unset, .unset, .unset, .unset] [(.ref (A 3)), (.int (3 : Int32)), (.ref b1), (.ref b1)])) rfl rfl (hb hby at_28)
    have V9 : Arv Z h9 b1 k1 (.object "com/example/kilnbyte/kilnbyte/tree/Operator") (27 : Int32) [.ref (A 0), .ref (A 1), .ref (A 2), .ref (A 3), .null, .null, .null, .null, .null, .null, .null, .null, .null, .null, .null, .null, .null, .null, .null, .null, .null, .null, .null, .null, .null, .null, .null] .null := Arv.set Ar9 q9a q9b q9c q9d q9e rfl W9 3 rfl (Nat.le_of_ble_eq_true rfl)
    have x9 : Ext Z.heap h9 := own_xw x7 W9 q1
    have N9 := Fr.snoc X9 N7 q1
    refine own_go (B := T9.setTop (mkF m 29 #[.val (.int p0), .unset, .unset, .unset, .unset, .unset] [(.ref b1)])) st9 ?_
    refine own_go (B := T9.setTop (mkF m 30 #[.val (.int p0), .unset, .unset, .unset, .unset, .unset] [(.ref b1), (.ref b1)])) (fun _ k => XS.dup X9.here hx rfl (hb hby at_29) rfl rfl k) ?_
    refine own_go (B := T9.setTop (mkF m 31 #[.val (.int p0), .unset, .unset, .unset, .unset, .unset] [(.int (4 : Int32)), (.ref b1), (.ref b1)])) (fun _ k => XT.iconstV X9.here hx rfl (4 : Int32) (hb hby at_30) rfl k) ?_
    obtain ⟨T10, X10, e10, st10⟩ := getS2 X9 hx hZ hown (host := "") (Or.inl (hw _ (List.mem_of_getElem? (i := 12) rfl))) Via.refl e9 (S_SUBTRACT.ext x9) (g := (mkF m 31 #[.val (.int p0), .unset, .unset, .unset, .unset, .unset] [(.int (4 : Int32)), (.ref b1), (.ref b1)])) rfl (hb hby at_31)
    refine own_go (B := T10.setTop (mkF m 34 #[.val (.int p0), .unset, .unset, .unset, .unset, .unset] [(.ref (A 4)), (.int (4 : Int32)), (.ref b1), (.ref b1)])) st10 ?_
    obtain ⟨cl11, Ar11, q11a, q11b, q11c, q11d, q11e⟩ := id V9
    obtain ⟨T11, h11, X11, e11, W11, st11⟩ := stR X10 hx hZ e10 Ar11 (j := (4 : Int32)) (inb_of q11b ⟨by decide, by decide⟩) rfl (Sto.ofV Ar11 q11a O1 (Ins.self (E_SUBTRACT.ext x9))) (g := (mkF m 34 #[.val (.int p0), .unset, .unset, .unset, .unset, .unset] [(.ref (A 4)), (.int (4 : Int32)), (.ref b1), (.ref b1)])) rfl rfl (hb hby at_34)
    have V11 : Arv Z h11 b1 k1 (.object "com/example/kilnbyte/kilnbyte/tree/Operator") (27 : Int32) [.ref (A 0), .ref (A 1), .ref (A 2), .ref (A 3), .ref (A 4), .null, .null, .null, .null, .null, .null, .null, .null, .null, .null, .null, .null, .null, .null, .null, .null, .null, .null, .null, .null, .null, .null] .null := Arv.set Ar11 q11a q11b q11c q11d q11e rfl W11 4 rfl (Nat.le_of_ble_eq_true rfl)
    have x11 : Ext Z.heap h11 := own_xw x9 W11 q1
    have N11 := Fr.snoc X11 N9 q1
    refine own_go (B := T11.setTop (mkF m 35 #[.val (.int p0), .unset, .unset, .unset, .unset, .unset] [(.ref b1)])) st11 ?_
    refine own_go (B := T11.setTop (mkF m 36 #[.val (.int p0), .unset, .unset, .unset, .unset, .unset] [(.ref b1), (.ref b1)])) (fun _ k => XS.dup X11.here hx rfl (hb hby at_35) rfl rfl k) ?_
    refine own_go (B := T11.setTop (mkF m 37 #[.val (.int p0), .unset, .unset, .unset, .unset, .unset] [(.int (5 : Int32)), (.ref b1), (.ref b1)])) (fun _ k => XT.iconstV X11.here hx rfl (5 : Int32) (hb hby at_36) rfl k) ?_
    obtain ⟨T12, X12, e12, st12⟩ := getS2 X11 hx hZ hown (host := "") (Or.inl (hw _ (List.mem_of_getElem? (i := 14) rfl))) Via.refl e11 (S_SHIFT_LEFT.ext x11) (g := (mkF m 37 #[.val (.int p0), .unset, .unset, .unset, .unset, .unset] [(.int (5 : Int32)), (.ref b1), (.ref b1)])) rfl (hb hby at_37)
    refine own_go (B := T12.setTop (mkF m 40 #[.val (.int p0), .unset, .unset, .unset, .unset, .unset] [(.ref (A 5)), (.int (5 : Int32)), (.ref b1), (.ref b1)])) st12 ?_
    obtain ⟨cl13, Ar13, q13a, q13b, q13c, q13d, q13e⟩ := id V11
    obtain ⟨T13, h13, X13, e13, W13, st13⟩ := stR X12 hx hZ e12 Ar13 (j := (5 : Int32)) (inb_of q13b ⟨by decide, by decide⟩) rfl (Sto.ofV Ar13 q13a O1 (Ins.self (E_SHIFT_LEFT.ext x11))) (g := (mkF m 40 #[.val (.int p0), .unset, .unset, .unset, .unset, .unset] [(.ref (A 5)), (.int (5 : Int32)), (.ref b1), (.ref b1)])) rfl rfl (hb hby at_40)
    have V13 : Arv Z h13 b1 k1 (.object "com/example/kilnbyte/kilnbyte/tree/Operator") (27 : Int32) [.ref (A 0), .ref (A 1), .ref (A 2), .ref (A 3), .ref (A 4), .ref (A 5), .null, .null, .null, .null, .null, .null, .null, .null, .null, .null, .null, .null, .null, .null, .null, .null, .null, .null, .null, .null, .null] .null := Arv.set Ar13 q13a q13b q13c q13d q13e rfl W13 5 rfl (Nat.le_of_ble_eq_true rfl)
    have x13 : Ext Z.heap h13 := own_xw x11 W13 q1
    have N13 := Fr.snoc X13 N11 q1
    refine own_go (B := T13.setTop (mkF m 41 #[.val (.int p0), .unset, .unset, .unset, .unset, .unset] [(.ref b1)])) st13 ?_
    refine own_go (B := T13.setTop (mkF m 42 #[.val (.int p0), .unset, .unset, .unset, .unset, .unset] [(.ref b1), (.ref b1)])) (fun _ k => XS.dup X13.here hx rfl (hb hby at_41) rfl rfl k) ?_
    refine own_go (B := T13.setTop (mkF m 44 #[.val (.int p0), .unset, .unset, .unset, .unset, .unset] [(.int (6 : Int32)), (.ref b1), (.ref b1)])) (fun _ k => XT.bipushV X13.here hx rfl (6 : Int32) (hb hby at_42) (by decide) k) ?_
    obtain ⟨T14, X14, e14, st14⟩ := getS2 X13 hx hZ hown (host := "") (Or.inl (hw _ (List.mem_of_getElem? (i := 16) rfl))) Via.refl e13 (S_SHIFT_RIGHT.ext x13) (g := (mkF m 44 #[.val (.int p0), .unset, .unset, .unset, .unset, .unset] [(.int (6 : Int32)), (.ref b1), (.ref b1)])) rfl (hb hby at_44)
    refine own_go (B := T14.setTop (mkF m 47 #[.val (.int p0), .unset, .unset, .unset, .unset, .unset] [(.ref (A 6)), (.int (6 : Int32)), (.ref b1), (.ref b1)])) st14 ?_
    obtain ⟨cl15, Ar15, q15a, q15b, q15c, q15d, q15e⟩ := id V13
    obtain ⟨T15, h15, X15, e15, W15, st15⟩ := stR X14 hx hZ e14 Ar15 (j := (6 : Int32)) (inb_of q15b ⟨by decide, by decide⟩) rfl (Sto.ofV Ar15 q15a O1 (Ins.self (E_SHIFT_RIGHT.ext x13))) (g := (mkF m 47 #[.val (.int p0), .unset, .unset, .unset, .unset, .unset] [(.ref (A 6)), (.int (6 : Int32)), (.ref b1), (.ref b1)])) rfl rfl (hb hby at_47)
    have V15 : Arv Z h15 b1 k1 (.object "com/example/kilnbyte/kilnbyte/tree/Operator") (27 : Int32) [.ref (A 0), .ref (A 1), .ref (A 2), .ref (A 3), .ref (A 4), .ref (A 5), .ref (A 6), .null, .null, .null, .null, .null, .null, .null, .null, .null, .null, .null, .null, .null, .null, .null, .null, .null, .null, .null, .null] .null := Arv.set Ar15 q15a q15b q15c q15d q15e rfl W15 6 rfl (Nat.le_of_ble_eq_true rfl)
    have x15 : Ext Z.heap h15 := own_xw x13 W15 q1
    have N15 := Fr.snoc X15 N13 q1
    refine own_go (B := T15.setTop (mkF m 48 #[.val (.int p0), .unset, .unset, .unset, .unset, .unset] [(.ref b1)])) st15 ?_
    refine own_go (B := T15.setTop (mkF m 49 #[.val (.int p0), .unset, .unset, .unset, .unset, .unset] [(.ref b1), (.ref b1)])) (fun _ k => XS.dup X15.here hx rfl (hb hby at_48) rfl rfl k) ?_
    refine own_go (B := T15.setTop (mkF m 51 #[.val (.int p0), .unset, .unset, .unset, .unset, .unset] [(.int (7 : Int32)), (.ref b1), (.ref b1)])) (fun _ k => XT.bipushV X15.here hx rfl (7 : Int32) (hb hby at_49) (by decide) k) ?_
    obtain ⟨T16, X16, e16, st16⟩ := getS2 X15 hx hZ hown (host := "") (Or.inl (hw _ (List.mem_of_getElem? (i := 18) rfl))) Via.refl e15 (S_UNSIGNED_SHIFT_RIGHT.ext x15) (g := (mkF m 51 #[.val (.int p0), .unset, .unset, .unset, .unset, .unset] [(.int (7 : Int32)), (.ref b1), (.ref b1)])) rfl (hb hby at_51)
    refine own_go (B := T16.setTop (mkF m 54 #[.val (.int p0), .unset, .unset, .unset, .unset, .unset] [(.ref (A 7)), (.int (7 : Int32)), (.ref b1), (.ref b1)])) st16 ?_
    obtain ⟨cl17, Ar17, q17a, q17b, q17c, q17d, q17e⟩ := id V15
    obtain ⟨T17, h17, X17, e17, W17, st17⟩ := stR X16 hx hZ e16 Ar17 (j := (7 : Int32)) (inb_of q17b ⟨by decide, by decide⟩) rfl (Sto.ofV Ar17 q17a O1 (Ins.self (E_UNSIGNED_SHIFT_RIGHT.ext x15))) (g := (mkF m 54 #[.val (.int p0), .unset, .unset, .unset, .unset, .unset] [(.ref (A 7)), (.int (7 : Int32)), (.ref b1), (.ref b1)])) rfl rfl (hb hby at_54)
    have V17 : Arv Z h17 b1 k1 (.object "com/example/kilnbyte/kilnbyte/tree/Operator") (27 : Int32) [.ref (A 0), .ref (A 1), .ref (A 2), .ref (A 3), .ref (A 4), .ref (A 5), .ref (A 6), .ref (A 7), .null, .null, .null, .null, .null, .null, .null, .null, .null, .null, .null, .null, .null, .null, .null, .null, .null, .null, .null] .null := Arv.set Ar17 q17a q17b q17c q17d q17e rfl W17 7 rfl (Nat.le_of_ble_eq_true rfl)
    have x17 : Ext Z.heap h17 := own_xw x15 W17 q1
    have N17 := Fr.snoc X17 N15 q1
    refine own_go (B := T17.setTop (mkF m 55 #[.val (.int p0), .unset, .unset, .unset, .unset, .unset] [(.ref b1)])) st17 ?_
    refine own_go (B := T17.setTop (mkF m 56 #[.val (.int p0), .unset, .unset, .unset, .unset, .unset] [(.ref b1), (.ref b1)])) (fun _ k => XS.dup X17.here hx rfl (hb hby at_55) rfl rfl k) ?_
    refine own_go (B := T17.setTop (mkF m 58 #[.val (.int p0), .unset, .unset, .unset, .unset, .unset] [(.int (8 : Int32)), (.ref b1), (.ref b1)])) (fun _ k => XT.bipushV X17.here hx rfl (8 : Int32) (hb hby at_56) (by decide) k) ?_
    obtain ⟨T18, X18, e18, st18⟩ := getS2 X17 hx hZ hown (host := "") (Or.inl (hw _ (List.mem_of_getElem? (i := 20) rfl))) Via.refl e17 (S_LESS.ext x17) (g := (mkF m 58 #[.val (.int p0), .unset, .unset, .unset, .unset, .unset] [(.int (8 : Int32)), (.ref b1), (.ref b1)])) rfl (hb hby at_58)
    refine own_go (B := T18.setTop (mkF m 61 #[.val (.int p0), .unset, .unset, .unset, .unset, .unset] [(.ref (A 8)), (.int (8 : Int32)), (.ref b1), (.ref b1)])) st18 ?_
    obtain ⟨cl19, Ar19, q19a, q19b, q19c, q19d, q19e⟩ := id V17
    obtain ⟨T19, h19, X19, e19, W19, st19⟩ := stR X18 hx hZ e18 Ar19 (j := (8 : Int32)) (inb_of q19b ⟨by decide, by decide⟩) rfl (Sto.ofV Ar19 q19a O1 (Ins.self (E_LESS.ext x17))) (g := (mkF m 61 #[.val (.int p0), .unset, .unset, .unset, .unset, .unset] [(.ref (A 8)), (.int (8 : Int32)), (.ref b1), (.ref b1)])) rfl rfl (hb hby at_61)
    have V19 : Arv Z h19 b1 k1 (.object "com/example/kilnbyte/kilnbyte/tree/Operator") (27 : Int32) [.ref (A 0), .ref (A 1), .ref (A 2), .ref (A 3), .ref (A 4), .ref (A 5), .ref (A 6), .ref (A 7), .ref (A 8), .null, .null, .null, .null, .null, .null, .null, .null, .null, .null, .null, .null, .null, .null, .null, .null, .null, .null] .null := Arv.set Ar19 q19a q19b q19c q19d q19e rfl W19 8 rfl (Nat.le_of_ble_eq_true rfl)
    have x19 : Ext Z.heap h19 := own_xw x17 W19 q1
    have N19 := Fr.snoc X19 N17 q1
    refine own_go (B := T19.setTop (mkF m 62 #[.val (.int p0), .unset, .unset, .unset, .unset, .unset] [(.ref b1)])) st19 ?_
    refine own_go (B := T19.setTop (mkF m 63 #[.val (.int p0), .unset, .unset, .unset, .unset, .unset] [(.ref b1), (.ref b1)])) (fun _ k => XS.dup X19.here hx rfl (hb hby at_62) rfl rfl k) ?_
    refine own_go (B := T19.setTop (mkF m 65 #[.val (.int p0), .unset, .unset, .unset, .unset, .unset] [(.int (9 : Int32)), (.ref b1), (.ref b1)])) (fun _ k => XT.bipushV X19.here hx rfl (9 : Int32) (hb hby at_63) (by decide) k) ?_
    obtain ⟨T20, X20, e20, st20⟩ := getS2 X19 hx hZ hown (host := "") (Or.inl (hw _ (List.mem_of_getElem? (i := 22) rfl))) Via.refl e19 (S_GREATER.ext x19) (g := (mkF m 65 #[.val (.int p0), .unset, .unset, .unset, .unset, .unset] [(.int (9 : Int32)), (.ref b1), (.ref b1)])) rfl (hb hby at_65)
    refine own_go (B := T20.setTop (mkF m 68 #[.val (.int p0), .unset, .unset, .unset, .unset, .unset] [(.ref (A 9)), (.int (9 : Int32)), (.ref b1), (.ref b1)])) st20 ?_
    obtain ⟨cl21, Ar21, q21a, q21b, q21c, q21d, q21e⟩ := id V19
    obtain ⟨T21, h21, X21, e21, W21, st21⟩ := stR X20 hx hZ e20 Ar21 (j := (9 : Int32)) (inb_of q21b ⟨by decide, by decide⟩) rfl (Sto.ofV Ar21 q21a O1 (Ins.self (E_GREATER.ext x19))) (g := (mkF m 68 #[.val (.int p0), .unset, .unset, .unset, .unset, .unset] [(.ref (A 9)), (.int (9 : Int32)), (.ref b1), (.ref b1)])) rfl rfl (hb hby at_68)
    have V21 : Arv Z h21 b1 k1 (.object "com/example/kilnbyte/kilnbyte/tree/Operator") (27 : Int32) [.ref (A 0), .ref (A 1), .ref (A 2), .ref (A 3), .ref (A 4), .ref (A 5), .ref (A 6), .ref (A 7), .ref (A 8), .ref (A 9), .null, .null, .null, .null, .null, .null, .null, .null, .null, .null, .null, .null, .null, .null, .null, .null, .null] .null := Arv.set Ar21 q21a q21b q21c q21d q21e rfl W21 9 rfl (Nat.le_of_ble_eq_true rfl)
    have x21 : Ext Z.heap h21 := own_xw x19 W21 q1
    have N21 := Fr.snoc X21 N19 q1
    refine own_go (B := T21.setTop (mkF m 69 #[.val (.int p0), .unset, .unset, .unset, .unset, .unset] [(.ref b1)])) st21 ?_
    refine own_go (B := T21.setTop (mkF m 70 #[.val (.int p0), .unset, .unset, .unset, .unset, .unset] [(.ref b1), (.ref b1)])) (fun _ k => XS.dup X21.here hx rfl (hb hby at_69) rfl rfl k) ?_
    refine own_go (B := T21.setTop (mkF m 72 #[.val (.int p0), .unset, .unset, .unset, .unset, .unset] [(.int (10 : Int32)), (.ref b1), (.ref b1)])) (fun _ k => XT.bipushV X21.here hx rfl (10 : Int32) (hb hby at_70) (by decide) k) ?_
    obtain ⟨T22, X22, e22, st22⟩ := getS2 X21 hx hZ hown (host := "") (Or.inl (hw _ (List.mem_of_getElem? (i := 24) rfl))) Via.refl e21 (S_LESS_EQUAL.ext x21) (g := (mkF m 72 #[.val (.int p0), .unset, .unset, .unset, .unset, .unset] [(.int (10 : Int32)), (.ref b1), (.ref b1)])) rfl (hb hby at_72)
    refine own_go (B := T22.setTop (mkF m 75 #[.val (.int p0), .unset, .unset, .unset, .unset, .unset] [(.ref (A 10)), (.int (10 : Int32)), (.ref b1), (.ref b1)])) st22 ?_
    obtain ⟨cl23, Ar23, q23a, q23b, q23c, q23d, q23e⟩ := id V21
    obtain ⟨T23, h23, X23, e23, W23, st23⟩ := stR X22 hx hZ e22 Ar23 (j := (10 : Int32)) (inb_of q23b ⟨by decide, by decide⟩) rfl (Sto.ofV Ar23 q23a O1 (Ins.self (E_LESS_EQUAL.ext x21))) (g := (mkF m 75 #[.val (.int p0), .unset, .unset, .unset, .unset, .unset] [(.ref (A 10)), (.int (10 : Int32)), (.ref b1), (.ref b1)])) rfl rfl (hb hby at_75)
    have V23 : Arv Z h23 b1 k1 (.object "com/example/kilnbyte/kilnbyte/tree/Operator") (27 : Int32) [.ref (A 0), .ref (A 1), .ref (A 2), .ref (A 3), .ref (A 4), .ref (A 5), .ref (A 6), .ref (A 7), .ref (A 8), .ref (A 9), .ref (A 10), .null, .null, .null, .null, .null, .null, .null, .null, .null, .null, .null, .null, .null, .null, .null, .null] .null := Arv.set Ar23 q23a q23b q23c q23d q23e rfl W23 10 rfl (Nat.le_of_ble_eq_true rfl)
    have x23 : Ext Z.heap h23 := own_xw x21 W23 q1
    have N23 := Fr.snoc X23 N21 q1
    refine own_go (B := T23.setTop (mkF m 76 #[.val (.int p0), .unset, .unset, .unset, .unset, .unset] [(.ref b1)])) st23 ?_
    refine own_go (B := T23.setTop (mkF m 77 #[.val (.int p0), .unset, .unset, .unset, .unset, .unset] [(.ref b1), (.ref b1)])) (fun _ k => XS.dup X23.here hx rfl (hb hby at_76) rfl rfl k) ?_
    refine own_go (B := T23.setTop (mkF m 79 #[.val (.int p0), .unset, .unset, .unset, .unset, .unset] [(.int (11 : Int32)), (.ref b1), (.ref b1)])) (fun _ k => XT.bipushV X23.here hx rfl (11 : Int32) (hb hby at_77) (by decide) k) ?_
    obtain ⟨T24, X24, e24, st24⟩ := getS2 X23 hx hZ hown (host := "") (Or.inl (hw _ (List.mem_of_getElem? (i := 26) rfl))) Via.refl e23 (S_GREATER_EQUAL.ext x23) (g := (mkF m 79 #[.val (.int p0), .unset, .unset, .unset, .unset, .unset] [(.int (11 : Int32)), (.ref b1), (.ref b1)])) rfl (hb hby at_79)
    refine own_go (B := T24.setTop (mkF m 82 #[.val (.int p0), .unset, .unset, .unset, .unset, .unset] [(.ref (A 11)), (.int (11 : Int32)), (.ref b1), (.ref b1)])) st24 ?_
    obtain ⟨cl25, Ar25, q25a, q25b, q25c, q25d, q25e⟩ := id V23
    obtain ⟨T25, h25, X25, e25, W25, st25⟩ := stR X24 hx hZ e24 Ar25 (j := (11 : Int32)) (inb_of q25b ⟨by decide, by decide⟩) rfl (Sto.ofV Ar25 q25a O1 (Ins.self (E_GREATER_EQUAL.ext x23))) (g := (mkF m 82 #[.val (.int p0), .unset, .unset, .unset, .unset, .unset] [(.ref (A 11)), (.int (11 : Int32)), (.ref b1), (.ref b1)])) rfl rfl (hb hby at_82)
    have V25 : Arv Z h25 b1 k1 (.object "com/example/kilnbyte/kilnbyte/tree/Operator") (27 : Int32) [.ref (A 0), .ref (A 1), .ref (A 2), .ref (A 3), .ref (A 4), .ref (A 5), .ref (A 6), .ref (A 7), .ref (A 8), .ref (A 9), .ref (A 10), .ref (A 11), .null, .null, .null, .null, .null, .null, .null, .null, .null, .null, .null, .null, .null, .null, .null] .null := Arv.set Ar25 q25a q25b q25c q25d q25e rfl W25 11 rfl (Nat.le_of_ble_eq_true rfl)
    have x25 : Ext Z.heap h25 := own_xw x23 W25 q1
    have N25 := Fr.snoc X25 N23 q1
    refine own_go (B := T25.setTop (mkF m 83 #[.val (.int p0), .unset, .unset, .unset, .unset, .unset] [(.ref b1)])) st25 ?_
    refine own_go (B := T25.setTop (mkF m 84 #[.val (.int p0), .unset, .unset, .unset, .unset, .unset] [(.ref b1), (.ref b1)])) (fun _ k => XS.dup X25.here hx rfl (hb hby at_83) rfl rfl k) ?_
    refine own_go (B := T25.setTop (mkF m 86 #[.val (.int p0), .unset, .unset, .unset, .unset, .unset] [(.int (12 : Int32)), (.ref b1), (.ref b1)])) (fun _ k => XT.bipushV X25.here hx rfl (12 : Int32) (hb hby at_84) (by decide) k) ?_
    obtain ⟨T26, X26, e26, st26⟩ := getS2 X25 hx hZ hown (host := "") (Or.inl (hw _ (List.mem_of_getElem? (i := 28) rfl))) Via.refl e25 (S_EQUAL.ext x25) (g := (mkF m 86 #[.val (.int p0), .unset, .unset, .unset, .unset, .unset] [(.int (12 : Int32)), (.ref b1), (.ref b1)])) rfl (hb hby at_86)
    refine own_go (B := T26.setTop (mkF m 89 #[.val (.int p0), .unset, .unset, .unset, .unset, .unset] [(.ref (A 12)), (.int (12 : Int32)), (.ref b1), (.ref b1)])) st26 ?_
    obtain ⟨cl27, Ar27, q27a, q27b, q27c, q27d, q27e⟩ := id V25
    obtain ⟨T27, h27, X27, e27, W27, st27⟩ := stR X26 hx hZ e26 Ar27 (j := (12 : Int32)) (inb_of q27b ⟨by decide, by decide⟩) rfl (Sto.ofV Ar27 q27a O1 (Ins.self (E_EQUAL.ext x25))) (g := (mkF m 89 #[.val (.int p0), .unset, .unset, .unset, .unset, .unset] [(.ref (A 12)), (.int (12 : Int32)), (.ref b1), (.ref b1)])) rfl rfl (hb hby at_89)
    have V27 : Arv Z h27 b1 k1 (.object "com/example/kilnbyte/kilnbyte/tree/Operator") (27 : Int32) [.ref (A 0), .ref (A 1), .ref (A 2), .ref (A 3), .ref (A 4), .ref (A 5), .ref (A 6), .ref (A 7), .ref (A 8), .ref (A 9), .ref (A 10), .ref (A 11), .ref (A 12), .null, .null, .null, .null, .null, .null, .null, .null, .null, .null, .null, .null, .null, .null] .null := Arv.set Ar27 q27a q27b q27c q27d q27e rfl W27 12 rfl (Nat.le_of_ble_eq_true rfl)
    have x27 : Ext Z.heap h27 := own_xw x25 W27 q1
    have N27 := Fr.snoc X27 N25 q1
    refine own_go (B := T27.setTop (mkF m 90 #[.val (.int p0), .unset, .unset, .unset, .unset, .unset] [(.ref b1)])) st27 ?_
    refine own_go (B := T27.setTop (mkF m 91 #[.val (.int p0), .unset, .unset, .unset, .unset, .unset] [(.ref b1), (.ref b1)])) (fun _ k => XS.dup X27.here hx rfl (hb hby at_90) rfl rfl k) ?_
    refine own_go (B := T27.setTop (mkF m 93 #[.val (.int p0), .unset, .unset, .unset, .unset, .unset] [(.int (13 : Int32)), (.ref b1), (.ref b1)])) (fun _ k => XT.bipushV X27.here hx rfl (13 : Int32) (hb hby at_91) (by decide) k) ?_
    obtain ⟨T28, X28, e28, st28⟩ := getS2 X27 hx hZ hown (host := "") (Or.inl (hw _ (List.mem_of_getElem? (i := 30) rfl))) Via.refl e27 (S_NOT_EQUAL.ext x27) (g := (mkF m 93 #[.val (.int p0), .unset, .unset, .unset, .unset, .unset] [(.int (13 : Int32)), (.ref b1), (.ref b1)])) rfl (hb hby at_93)
    refine own_go (B := T28.setTop (mkF m 96 #[.val (.int p0), .unset, .unset, .unset, .unset, .unset] [(.ref (A 13)), (.int (13 : Int32)), (.ref b1), (.ref b1)])) st28 ?_
    obtain ⟨cl29, Ar29, q29a, q29b, q29c, q29d, q29e⟩ := id V27
    obtain ⟨T29, h29, X29, e29, W29, st29⟩ := stR X28 hx hZ e28 Ar29 (j := (13 : Int32)) (inb_of q29b ⟨by decide, by decide⟩) rfl (Sto.ofV Ar29 q29a O1 (Ins.self (E_NOT_EQUAL.ext x27))) (g := (mkF m 96 #[.val (.int p0), .unset, .unset, .unset, .unset, .unset] [(.ref (A 13)), (.int (13 : Int32)), (.ref b1), (.ref b1)])) rfl rfl (hb hby at_96)
    have V29 : Arv Z h29 b1 k1 (.object "com/example/kilnbyte/kilnbyte/tree/Operator") (27 : Int32) [.ref (A 0), .ref (A 1), .ref (A 2), .ref (A 3), .ref (A 4), .ref (A 5), .ref (A 6), .ref (A 7), .ref (A 8), .ref (A 9), .ref (A 10), .ref (A 11), .ref (A 12), .ref (A 13), .null, .null, .null, .null, .null, .null, .null, .null, .null, .null, .null, .null, .null] .null := Arv.set Ar29 q29a q29b q29c q29d q29e rfl W29 13 rfl (Nat.le_of_ble_eq_true rfl)
    have x29 : Ext Z.heap h29 := own_xw x27 W29 q1
    have N29 := Fr.snoc X29 N27 q1
    refine own_go (B := T29.setTop (mkF m 97 #[.val (.int p0), .unset, .unset, .unset, .unset, .unset] [(.ref b1)])) st29 ?_
    refine own_go (B := T29.setTop (mkF m 98 #[.val (.int p0), .unset, .unset, .unset, .unset, .unset] [(.ref b1), (.ref b1)])) (fun _ k => XS.dup X29.here hx rfl (hb hby at_97) rfl rfl k) ?_
    refine own_go (B := T29.setTop (mkF m 100 #[.val (.int p0), .unset, .unset, .unset, .unset, .unset] [(.int (14 : Int32)), (.ref b1), (.ref b1)])) (fun _ k => XT.bipushV X29.here hx rfl (14 : Int32) (hb hby at_98) (by decide) k) ?_
    obtain ⟨T30, X30, e30, st30⟩ := getS2 X29 hx hZ hown (host := "") (Or.inl (hw _ (List.mem_of_getElem? (i := 32) rfl))) Via.refl e29 (S_AND.ext x29) (g := (mkF m 100 #[.val (.int p0), .unset, .unset, .unset, .unset, .unset] [(.int (14 : Int32)), (.ref b1), (.ref b1)])) rfl (hb hby at_100)
    refine own_go (B := T30.setTop (mkF m 103 #[.val (.int p0), .unset, .unset, .unset, .unset, .unset] [(.ref (A 14)), (.int (14 : Int32)), (.ref b1), (.ref b1)])) st30 ?_
    obtain ⟨cl31, Ar31, q31a, q31b, q31c, q31d, q31e⟩ := id V29
    obtain ⟨T31, h31, X31, e31, W31, st31⟩ := stR X30 hx hZ e30 Ar31 (j := (14 : Int32)) (inb_of q31b ⟨by decide, by decide⟩) rfl (Sto.ofV Ar31 q31a O1 (Ins.self (E_AND.ext x29))) (g := (mkF m 103 #[.val (.int p0), .unset, .unset, .unset, .unset, .unset] [(.ref (A 14)), (.int (14 : Int32)), (.ref b1), (.ref b1)])) rfl rfl (hb hby at_103)
    have V31 : Arv Z h31 b1 k1 (.object "com/example/kilnbyte/kilnbyte/tree/Operator") (27 : Int32) [.ref (A 0), .ref (A 1), .ref (A 2), .ref (A 3), .ref (A 4), .ref (A 5), .ref (A 6), .ref (A 7), .ref (A 8), .ref (A 9), .ref (A 10), .ref (A 11), .ref (A 12), .ref (A 13), .ref (A 14), .null, .null, .null, .null, .null, .null, .null, .null, .null, .null, .null, .null] .null := Arv.set Ar31 q31a q31b q31c q31d q31e rfl W31 14 rfl (Nat.le_of_ble_eq_true rfl)
    have x31 : Ext Z.heap h31 := own_xw x29 W31 q1
    have N31 := Fr.snoc X31 N29 q1
    refine own_go (B := T31.setTop (mkF m 104 #[.val (.int p0), .unset, .unset, .unset, .unset, .unset] [(.ref b1)])) st31 ?_
    refine own_go (B := T31.setTop (mkF m 105 #[.val (.int p0), .unset, .unset, .unset, .unset, .unset] [(.ref b1), (.ref b1)])) (fun _ k => XS.dup X31.here hx rfl (hb hby at_104) rfl rfl k) ?_
    refine own_go (B := T31.setTop (mkF m 107 #[.val (.int p0), .unset, .unset, .unset, .unset, .unset] [(.int (15 : Int32)), (.ref b1), (.ref b1)])) (fun _ k => XT.bipushV X31.here hx rfl (15 : Int32) (hb hby at_105) (by decide) k) ?_
    obtain ⟨T32, X32, e32, st32⟩ := getS2 X31 hx hZ hown (host := "") (Or.inl (hw _ (List.mem_of_getElem? (i := 34) rfl))) Via.refl e31 (S_XOR.ext x31) (g := (mkF m 107 #[.val (.int p0), .unset, .unset, .unset, .unset, .unset] [(.int (15 : Int32)), (.ref b1), (.ref b1)])) rfl (hb hby at_107)
    refine own_go (B := T32.setTop (mkF m 110 #[.val (.int p0), .unset, .unset, .unset, .unset, .unset] [(.ref (A 15)), (.int (15 : Int32)), (.ref b1), (.ref b1)])) st32 ?_
    obtain ⟨cl33, Ar33, q33a, q33b, q33c, q33d, q33e⟩ := id V31
    obtain ⟨T33, h33, X33, e33, W33, st33⟩ := stR X32 hx hZ e32 Ar33 (j := (15 : Int32)) (inb_of q33b ⟨by decide, by decide⟩) rfl (Sto.ofV Ar33 q33a O1 (Ins.self (E_XOR.ext x31))) (g := (mkF m 110 #[.val (.int p0), .unset, .unset, .unset, .unset, .unset] [(.ref (A 15)), (.int (15 : Int32)), (.ref b1), (.ref b1)])) rfl rfl (hb hby at_110)
    have V33 : Arv Z h33 b1 k1 (.object "com/example/kilnbyte/kilnbyte/tree/Operator") (27 : Int32) [.ref (A 0), .ref (A 1), .ref (A 2), .ref (A 3), .ref (A 4), .ref (A 5), .ref (A 6), .ref (A 7), .ref (A 8), .ref (A 9), .ref (A 10), .ref (A 11), .ref (A 12), .ref (A 13), .ref (A 14), .ref (A 15), .null, .null, .null, .null, .null, .null, .null, .null, .null, .null, .null] .null := Arv.set Ar33 q33a q33b q33c q33d q33e rfl W33 15 rfl (Nat.le_of_ble_eq_true rfl)
    have x33 : Ext Z.heap h33 := own_xw x31 W33 q1
    have N33 := Fr.snoc X33 N31 q1
    refine own_go (B := T33.setTop (mkF m 111 #[.val (.int p0), .unset, .unset, .unset, .unset, .unset] [(.ref b1)])) st33 ?_
    refine own_go (B := T33.setTop (mkF m 112 #[.val (.int p0), .unset, .unset, .unset, .unset, .unset] [(.ref b1), (.ref b1)])) (fun _ k => XS.dup X33.here hx rfl (hb hby at_111) rfl rfl k) ?_
    refine own_go (B := T33.setTop (mkF m 114 #[.val (.int p0), .unset, .unset, .unset, .unset, .unset] [(.int (16 : Int32)), (.ref b1), (.ref b1)])) (fun _ k => XT.bipushV X33.here hx rfl (16 : Int32) (hb hby at_112) (by decide) k) ?_
    obtain ⟨T34, X34, e34, st34⟩ := getS2 X33 hx hZ hown (host := "") (Or.inl (hw _ (List.mem_of_getElem? (i := 36) rfl))) Via.refl e33 (S_OR.ext x33) (g := (mkF m 114 #[.val (.int p0), .unset, .unset, .unset, .unset, .unset] [(.int (16 : Int32)), (.ref b1), (.ref b1)])) rfl (hb hby at_114)
    refine own_go (B := T34.setTop (mkF m 117 #[.val (.int p0), .unset, .unset, .unset, .unset, .unset] [(.ref (A 16)), (.int (16 : Int32)), (.ref b1), (.ref b1)])) st34 ?_
    obtain ⟨cl35, Ar35, q35a, q35b, q35c, q35d, q35e⟩ := id V33
    obtain ⟨T35, h35, X35, e35, W35, st35⟩ := stR X34 hx hZ e34 Ar35 (j := (16 : Int32)) (inb_of q35b ⟨by decide, by decide⟩) rfl (Sto.ofV Ar35 q35a O1 (Ins.self (E_OR.ext x33))) (g := (mkF m 117 #[.val (.int p0), .unset, .unset, .unset, .unset, .unset] [(.ref (A 16)), (.int (16 : Int32)), (.ref b1), (.ref b1)])) rfl rfl (hb hby at_117)
    have V35 : Arv Z h35 b1 k1 (.object "com/example/kilnbyte/kilnbyte/tree/Operator") (27 : Int32) [.ref (A 0), .ref (A 1), .ref (A 2), .ref (A 3), .ref (A 4), .ref (A 5), .ref (A 6), .ref (A 7), .ref (A 8), .ref (A 9), .ref (A 10), .ref (A 11), .ref (A 12), .ref (A 13), .ref (A 14), .ref (A 15), .ref (A 16), .null, .null, .null, .null, .null, .null, .null, .null, .null, .null] .null := Arv.set Ar35 q35a q35b q35c q35d q35e rfl W35 16 rfl (Nat.le_of_ble_eq_true rfl)
    have x35 : Ext Z.heap h35 := own_xw x33 W35 q1
    have N35 := Fr.snoc X35 N33 q1
    refine own_go (B := T35.setTop (mkF m 118 #[.val (.int p0), .unset, .unset, .unset, .unset, .unset] [(.ref b1)])) st35 ?_
    refine own_go (B := T35.setTop (mkF m 119 #[.val (.int p0), .unset, .unset, .unset, .unset, .unset] [(.ref b1), (.ref b1)])) (fun _ k => XS.dup X35.here hx rfl (hb hby at_118) rfl rfl k) ?_
    refine own_go (B := T35.setTop (mkF m 121 #[.val (.int p0), .unset, .unset, .unset, .unset, .unset] [(.int (17 : Int32)), (.ref b1), (.ref b1)])) (fun _ k => XT.bipushV X35.here hx rfl (17 : Int32) (hb hby at_119) (by decide) k) ?_
    obtain ⟨T36, X36, e36, st36⟩ := getS2 X35 hx hZ hown (host := "") (Or.inl (hw _ (List.mem_of_getElem? (i := 38) rfl))) Via.refl e35 (S_CONDITIONAL_AND.ext x35) (g := (mkF m 121 #[.val (.int p0), .unset, .unset, .unset, .unset, .unset] [(.int (17 : Int32)), (.ref b1), (.ref b1)])) rfl (hb hby at_121)
    refine own_go (B := T36.setTop (mkF m 124 #[.val (.int p0), .unset, .unset, .unset, .unset, .unset] [(.ref (A 17)), (.int (17 : Int32)), (.ref b1), (.ref b1)])) st36 ?_
    obtain ⟨cl37, Ar37, q37a, q37b, q37c, q37d, q37e⟩ := id V35
    obtain ⟨T37, h37, X37, e37, W37, st37⟩ := stR X36 hx hZ e36 Ar37 (j := (17 : Int32)) (inb_of q37b ⟨by decide, by decide⟩) rfl (Sto.ofV Ar37 q37a O1 (Ins.self (E_CONDITIONAL_AND.ext x35))) (g := (mkF m 124 #[.val (.int p0), .unset, .unset, .unset, .unset, .unset] [(.ref (A 17)), (.int (17 : Int32)), (.ref b1), (.ref b1)])) rfl rfl (hb hby at_124)
    have V37 : Arv Z h37 b1 k1 (.object "com/example/kilnbyte/kilnbyte/tree/Operator") (27 : Int32) [.ref (A 0), .ref (A 1), .ref (A 2), .ref (A 3), .ref (A 4), .ref (A 5), .ref (A 6), .ref (A 7), .ref (A 8), .ref (A 9), .ref (A 10), .ref (A 11), .ref (A 12), .ref (A 13), .ref (A 14), .ref (A 15), .ref (A 16), .ref (A 17), .null, .null, .null, .null, .null, .null, .null, .null, .null] .null := Arv.set Ar37 q37a q37b q37c q37d q37e rfl W37 17 rfl (Nat.le_of_ble_eq_true rfl)
    have x37 : Ext Z.heap h37 := own_xw x35 W37 q1
    have N37 := Fr.snoc X37 N35 q1
    refine own_go (B := T37.setTop (mkF m 125 #[.val (.int p0), .unset, .unset, .unset, .unset, .unset] [(.ref b1)])) st37 ?_
    refine own_go (B := T37.setTop (mkF m 126 #[.val (.int p0), .unset, .unset, .unset, .unset, .unset] [(.ref b1), (.ref b1)])) (fun _ k => XS.dup X37.here hx rfl (hb hby at_125) rfl rfl k) ?_
    refine own_go (B := T37.setTop (mkF m 128 #[.val (.int p0), .unset, .unset, .unset, .unset, .unset] [(.int (18 : Int32)), (.ref b1), (.ref b1)])) (fun _ k => XT.bipushV X37.here hx rfl (18 : Int32) (hb hby at_126) (by decide) k) ?_
    obtain ⟨T38, X38, e38, st38⟩ := getS2 X37 hx hZ hown (host := "") (Or.inl (hw _ (List.mem_of_getElem? (i := 40) rfl))) Via.refl e37 (S_CONDITIONAL_OR.ext x37) (g := (mkF m 128 #[.val (.int p0), .unset, .unset, .unset, .unset, .unset] [(.int (18 : Int32)), (.ref b1), (.ref b1)])) rfl (hb hby at_128)
    refine own_go (B := T38.setTop (mkF m 131 #[.val (.int p0), .unset, .unset, .unset, .unset, .unset] [(.ref (A 18)), (.int (18 : Int32)), (.ref b1), (.ref b1)])) st38 ?_
    obtain ⟨cl39, Ar39, q39a, q39b, q39c, q39d, q39e⟩ := id V37
    obtain ⟨T39, h39, X39, e39, W39, st39⟩ := stR X38 hx hZ e38 Ar39 (j := (18 : Int32)) (inb_of q39b ⟨by decide, by decide⟩) rfl (Sto.ofV Ar39 q39a O1 (Ins.self (E_CONDITIONAL_OR.ext x37))) (g := (mkF m 131 #[.val (.int p0), .unset, .unset, .unset, .unset, .unset] [(.ref (A 18)), (.int (18 : Int32)), (.ref b1), (.ref b1)])) rfl rfl (hb hby at_131)
    have V39 : Arv Z h39 b1 k1 (.object "com/example/kilnbyte/kilnbyte/tree/Operator") (27 : Int32) [.ref (A 0), .ref (A 1), .ref (A 2), .ref (A 3), .ref (A 4), .ref (A 5), .ref (A 6), .ref (A 7), .ref (A 8), .ref (A 9), .ref (A 10), .ref (A 11), .ref (A 12), .ref (A 13), .ref (A 14), .ref (A 15), .ref (A 16), .ref (A 17), .ref (A 18), .null, .null, .null, .null, .null, .null, .null, .null] .null := Arv.set Ar39 q39a q39b q39c q39d q39e rfl W39 18 rfl (Nat.le_of_ble_eq_true rfl)
    have x39 : Ext Z.heap h39 := own_xw x37 W39 q1
    have N39 := Fr.snoc X39 N37 q1
    refine own_go (B := T39.setTop (mkF m 132 #[.val (.int p0), .unset, .unset, .unset, .unset, .unset] [(.ref b1)])) st39 ?_
    refine own_go (B := T39.setTop (mkF m 133 #[.val (.int p0), .unset, .unset, .unset, .unset, .unset] [(.ref b1), (.ref b1)])) (fun _ k => XS.dup X39.here hx rfl (hb hby at_132) rfl rfl k) ?_
    refine own_go (B := T39.setTop (mkF m 135 #[.val (.int p0), .unset, .unset, .unset, .unset, .unset] [(.int (19 : Int32)), (.ref b1), (.ref b1)])) (fun _ k => XT.bipushV X39.here hx rfl (19 : Int32) (hb hby at_133) (by decide) k) ?_
    obtain ⟨T40, X40, e40, st40⟩ := getS2 X39 hx hZ hown (host := "") (Or.inl (hw _ (List.mem_of_getElem? (i := 42) rfl))) Via.refl e39 (S_PLUS.ext x39) (g := (mkF m 135 #[.val (.int p0), .unset, .unset, .unset, .unset, .unset] [(.int (19 : Int32)), (.ref b1), (.ref b1)])) rfl (hb hby at_135)
    refine own_go (B := T40.setTop (mkF m 138 #[.val (.int p0), .unset, .unset, .unset, .unset, .unset] [(.ref (A 19)), (.int (19 : Int32)), (.ref b1), (.ref b1)])) st40 ?_
    obtain ⟨cl41, Ar41, q41a, q41b, q41c, q41d, q41e⟩ := id V39
    obtain ⟨T41, h41, X41, e41, W41, st41⟩ := stR X40 hx hZ e40 Ar41 (j := (19 : Int32)) (inb_of q41b ⟨by decide, by decide⟩) rfl (Sto.ofV Ar41 q41a O1 (Ins.self (E_PLUS.ext x39))) (g := (mkF m 138 #[.val (.int p0), .unset, .unset, .unset, .unset, .unset] [(.ref (A 19)), (.int (19 : Int32)), (.ref b1), (.ref b1)])) rfl rfl (hb hby at_138)
    have V41 : Arv Z h41 b1 k1 (.object "com/example/kilnbyte/kilnbyte/tree/Operator") (27 : Int32) [.ref (A 0), .ref (A 1), .ref (A 2), .ref (A 3), .ref (A 4), .ref (A 5), .ref (A 6), .ref (A 7), .ref (A 8), .ref (A 9), .ref (A 10), .ref (A 11), .ref (A 12), .ref (A 13), .ref (A 14), .ref (A 15), .ref (A 16), .ref (A 17), .ref (A 18), .ref (A 19), .null, .null, .null, .null, .null, .null, .null] .null := Arv.set Ar41 q41a q41b q41c q41d q41e rfl W41 19 rfl (Nat.le_of_ble_eq_true rfl)
    have x41 : Ext Z.heap h41 := own_xw x39 W41 q1
    have N41 := Fr.snoc X41 N39 q1
    refine own_go (B := T41.setTop (mkF m 139 #[.val (.int p0), .unset, .unset, .unset, .unset, .unset] [(.ref b1)])) st41 ?_
    refine own_go (B := T41.setTop (mkF m 140 #[.val (.int p0), .unset, .unset, .unset, .unset, .unset] [(.ref b1), (.ref b1)])) (fun _ k => XS.dup X41.here hx rfl (hb hby at_139) rfl rfl k) ?_
    refine own_go (B := T41.setTop (mkF m 142 #[.val (.int p0), .unset, .unset, .unset, .unset, .unset] [(.int (20 : Int32)), (.ref b1), (.ref b1)])) (fun _ k => XT.bipushV X41.here hx rfl (20 : Int32) (hb hby at_140) (by decide) k) ?_
    obtain ⟨T42, X42, e42, st42⟩ := getS2 X41 hx hZ hown (host := "") (Or.inl (hw _ (List.mem_of_getElem? (i := 44) rfl))) Via.refl e41 (S_MINUS.ext x41) (g := (mkF m 142 #[.val (.int p0), .unset, .unset, .unset, .unset, .unset] [(.int (20 : Int32)), (.ref b1), (.ref b1)])) rfl (hb hby at_142)
    refine own_go (B := T42.setTop (mkF m 145 #[.val (.int p0), .unset, .unset, .unset, .unset, .unset] [(.ref (A 20)), (.int (20 : Int32)), (.ref b1), (.ref b1)])) st42 ?_
    obtain ⟨cl43, Ar43, q43a, q43b, q43c, q43d, q43e⟩ := id V41
    obtain ⟨T43, h43, X43, e43, W43, st43⟩ := stR X42 hx hZ e42 Ar43 (j := (20 : Int32)) (inb_of q43b ⟨by decide, by decide⟩) rfl (Sto.ofV Ar43 q43a O1 (Ins.self (E_MINUS.ext x41))) (g := (mkF m 145 #[.val (.int p0), .unset, .unset, .unset, .unset, .unset] [(.ref (A 20)), (.int (20 : Int32)), (.ref b1), (.ref b1)])) rfl rfl (hb hby at_145)
    have V43 : Arv Z h43 b1 k1 (.object "com/example/kilnbyte/kilnbyte/tree/Operator") (27 : Int32) [.ref (A 0), .ref (A 1), .ref (A 2), .ref (A 3), .ref (A 4), .ref (A 5), .ref (A 6), .ref (A 7), .ref (A 8), .ref (A 9), .ref (A 10), .ref (A 11), .ref (A 12), .ref (A 13), .ref (A 14), .ref (A 15), .ref (A 16), .ref (A 17), .ref (A 18), .ref (A 19), .ref (A 20), .null, .null, .null, .null, .null, .null] .null := Arv.set Ar43 q43a q43b q43c q43d q43e rfl W43 20 rfl (Nat.le_of_ble_eq_true rfl)
    have x43 : Ext Z.heap h43 := own_xw x41 W43 q1
    have N43 := Fr.snoc X43 N41 q1
    refine own_go (B := T43.setTop (mkF m 146 #[.val (.int p0), .unset, .unset, .unset, .unset, .unset] [(.ref b1)])) st43 ?_
    refine own_go (B := T43.setTop (mkF m 147 #[.val (.int p0), .unset, .unset, .unset, .unset, .unset] [(.ref b1), (.ref b1)])) (fun _ k => XS.dup X43.here hx rfl (hb hby at_146) rfl rfl k) ?_
    refine own_go (B := T43.setTop (mkF m 149 #[.val (.int p0), .unset, .unset, .unset, .unset, .unset] [(.int (21 : Int32)), (.ref b1), (.ref b1)])) (fun _ k => XT.bipushV X43.here hx rfl (21 : Int32) (hb hby at_147) (by decide) k) ?_
    obtain ⟨T44, X44, e44, st44⟩ := getS2 X43 hx hZ hown (host := "") (Or.inl (hw _ (List.mem_of_getElem? (i := 46) rfl))) Via.refl e43 (S_COMPLEMENT.ext x43) (g := (mkF m 149 #[.val (.int p0), .unset, .unset, .unset, .unset, .unset] [(.int (21 : Int32)), (.ref b1), (.ref b1)])) rfl (hb hby at_149)
    refine own_go (B := T44.setTop (mkF m 152 #[.val (.int p0), .unset, .unset, .unset, .unset, .unset] [(.ref (A 21)), (.int (21 : Int32)), (.ref b1), (.ref b1)])) st44 ?_
    obtain ⟨cl45, Ar45, q45a, q45b, q45c, q45d, q45e⟩ := id V43
    obtain ⟨T45, h45, X45, e45, W45, st45⟩ := stR X44 hx hZ e44 Ar45 (j := (21 : Int32)) (inb_of q45b ⟨by decide, by decide⟩) rfl (Sto.ofV Ar45 q45a O1 (Ins.self (E_COMPLEMENT.ext x43))) (g := (mkF m 152 #[.val (.int p0), .unset, .unset, .unset, .unset, .unset] [(.ref (A 21)), (.int (21 : Int32)), (.ref b1), (.ref b1)])) rfl rfl (hb hby at_152)
    have V45 : Arv Z h45 b1 k1 (.object "com/example/kilnbyte/kilnbyte/tree/Operator") (27 : Int32) [.ref (A 0), .ref (A 1), .ref (A 2), .ref (A 3), .ref (A 4), .ref (A 5), .ref (A 6), .ref (A 7), .ref (A 8), .ref (A 9), .ref (A 10), .ref (A 11), .ref (A 12), .ref (A 13), .ref (A 14), .ref (A 15), .ref (A 16), .ref (A 17), .ref (A 18), .ref (A 19), .ref (A 20), .ref (A 21), .null, .null, .null, .null, .null] .null := Arv.set Ar45 q45a q45b q45c q45d q45e rfl W45 21 rfl (Nat.le_of_ble_eq_true rfl)
    have x45 : Ext Z.heap h45 := own_xw x43 W45 q1
    have N45 := Fr.snoc X45 N43 q1
    refine own_go (B := T45.setTop (mkF m 153 #[.val (.int p0), .unset, .unset, .unset, .unset, .unset] [(.ref b1)])) st45 ?_
    refine own_go (B := T45.setTop (mkF m 154 #[.val (.int p0), .unset, .unset, .unset, .unset, .unset] [(.ref b1), (.ref b1)])) (fun _ k => XS.dup X45.here hx rfl (hb hby at_153) rfl rfl k) ?_
    refine own_go (B := T45.setTop (mkF m 156 #[.val (.int p0), .unset, .unset, .unset, .unset, .unset] [(.int (22 : Int32)), (.ref b1), (.ref b1)])) (fun _ k => XT.bipushV X45.here hx rfl (22 : Int32) (hb hby at_154) (by decide) k) ?_
    obtain ⟨T46, X46, e46, st46⟩ := getS2 X45 hx hZ hown (host := "") (Or.inl (hw _ (List.mem_of_getElem? (i := 48) rfl))) Via.refl e45 (S_NOT.ext x45) (g := (mkF m 156 #[.val (.int p0), .unset, .unset, .unset, .unset, .unset] [(.int (22 : Int32)), (.ref b1), (.ref b1)])) rfl (hb hby at_156)
    refine own_go (B := T46.setTop (mkF m 159 #[.val (.int p0), .unset, .unset, .unset, .unset, .unset] [(.ref (A 22)), (.int (22 : Int32)), (.ref b1), (.ref b1)])) st46 ?_
    obtain ⟨cl47, Ar47, q47a, q47b, q47c, q47d, q47e⟩ := id V45
    obtain ⟨T47, h47, X47, e47, W47, st47⟩ := stR X46 hx hZ e46 Ar47 (j := (22 : Int32)) (inb_of q47b ⟨by decide, by decide⟩) rfl (Sto.ofV Ar47 q47a O1 (Ins.self (E_NOT.ext x45))) (g := (mkF m 159 #[.val (.int p0), .unset, .unset, .unset, .unset, .unset] [(.ref (A 22)), (.int (22 : Int32)), (.ref b1), (.ref b1)])) rfl rfl (hb hby at_159)
    have V47 : Arv Z h47 b1 k1 (.object "com/example/kilnbyte/kilnbyte/tree/Operator") (27 : Int32) [.ref (A 0), .ref (A 1), .ref (A 2), .ref (A 3), .ref (A 4), .ref (A 5), .ref (A 6), .ref (A 7), .ref (A 8), .ref (A 9), .ref (A 10), .ref (A 11), .ref (A 12), .ref (A 13), .ref (A 14), .ref (A 15), .ref (A 16), .ref (A 17), .ref (A 18), .ref (A 19), .ref (A 20), .ref (A 21), .ref (A 22), .null, .null, .null, .null] .null := Arv.set Ar47 q47a q47b q47c q47d q47e rfl W47 22 rfl (Nat.le_of_ble_eq_true rfl)
    have x47 : Ext Z.heap h47 := own_xw x45 W47 q1
    have N47 := Fr.snoc X47 N45 q1
    refine own_go (B := T47.setTop (mkF m 160 #[.val (.int p0), .unset, .unset, .unset, .unset, .unset] [(.ref b1)])) st47 ?_
    refine own_go (B := T47.setTop (mkF m 161 #[.val (.int p0), .unset, .unset, .unset, .unset, .unset] [(.ref b1), (.ref b1)])) (fun _ k => XS.dup X47.here hx rfl (hb hby at_160) rfl rfl k) ?_
    refine own_go (B := T47.setTop (mkF m 163 #[.val (.int p0), .unset, .unset, .unset, .unset, .unset] [(.int (23 : Int32)), (.ref b1), (.ref b1)])) (fun _ k => XT.bipushV X47.here hx rfl (23 : Int32) (hb hby at_161) (by decide) k) ?_
    obtain ⟨T48, X48, e48, st48⟩ := getS2 X47 hx hZ hown (host := "") (Or.inl (hw _ (List.mem_of_getElem? (i := 50) rfl))) Via.refl e47 (S_PRE_INCREMENT.ext x47) (g := (mkF m 163 #[.val (.int p0), .unset, .unset, .unset, .unset, .unset] [(.int (23 : Int32)), (.ref b1), (.ref b1)])) rfl (hb hby at_163)
    refine own_go (B := T48.setTop (mkF m 166 #[.val (.int p0), .unset, .unset, .unset, .unset, .unset] [(.ref (A 23)), (.int (23 : Int32)), (.ref b1), (.ref b1)])) st48 ?_
    obtain ⟨cl49, Ar49, q49a, q49b, q49c, q49d, q49e⟩ := id V47
    obtain ⟨T49, h49, X49, e49, W49, st49⟩ := stR X48 hx hZ e48 Ar49 (j := (23 : Int32)) (inb_of q49b ⟨by decide, by decide⟩) rfl (Sto.ofV Ar49 q49a O1 (Ins.self (E_PRE_INCREMENT.ext x47))) (g := (mkF m 166 #[.val (.int p0), .unset, .unset, .unset, .unset, .unset] [(.ref (A 23)), (.int (23 : Int32)), (.ref b1), (.ref b1)])) rfl rfl (hb hby at_166)
    have V49 : Arv Z h49 b1 k1 (.object "com/example/kilnbyte/kilnbyte/tree/Operator") (27 : Int32) [.ref (A 0), .ref (A 1), .ref (A 2), .ref (A 3), .ref (A 4), .ref (A 5), .ref (A 6), .ref (A 7), .ref (A 8), .ref (A 9), .ref (A 10), .ref (A 11), .ref (A 12), .ref (A 13), .ref (A 14), .ref (A 15), .ref (A 16), .ref (A 17), .ref (A 18), .ref (A 19), .ref (A 20), .ref (A 21), .ref (A 22), .ref (A 23), .null, .null, .null] .null := Arv.set Ar49 q49a q49b q49c q49d q49e rfl W49 23 rfl (Nat.le_of_ble_eq_true rfl)
    have x49 : Ext Z.heap h49 := own_xw x47 W49 q1
    have N49 := Fr.snoc X49 N47 q1
    refine own_go (B := T49.setTop (mkF m 167 #[.val (.int p0), .unset, .unset, .unset, .unset, .unset] [(.ref b1)])) st49 ?_
    refine own_go (B := T49.setTop (mkF m 168 #[.val (.int p0), .unset, .unset, .unset, .unset, .unset] [(.ref b1), (.ref b1)])) (fun _ k => XS.dup X49.here hx rfl (hb hby at_167) rfl rfl k) ?_
    refine own_go (B := T49.setTop (mkF m 170 #[.val (.int p0), .unset, .unset, .unset, .unset, .unset] [(.int (24 : Int32)), (.ref b1), (.ref b1)])) (fun _ k => XT.bipushV X49.here hx rfl (24 : Int32) (hb hby at_168) (by decide) k) ?_
    obtain ⟨T50, X50, e50, st50⟩ := getS2 X49 hx hZ hown (host := "") (Or.inl (hw _ (List.mem_of_getElem? (i := 52) rfl))) Via.refl e49 (S_PRE_DECREMENT.ext x49) (g := (mkF m 170 #[.val (.int p0), .unset, .unset, .unset, .unset, .unset] [(.int (24 : Int32)), (.ref b1), (.ref b1)])) rfl (hb hby at_170)
    refine own_go (B := T50.setTop (mkF m 173 #[.val (.int p0), .unset, .unset, .unset, .unset, .unset] [(.ref (A 24)), (.int (24 : Int32)), (.ref b1), (.ref b1)])) st50 ?_
    obtain ⟨cl51, Ar51, q51a, q51b, q51c, q51d, q51e⟩ := id V49
    obtain ⟨T51, h51, X51, e51, W51, st51⟩ := stR X50 hx hZ e50 Ar51 (j := (24 : Int32)) (inb_of q51b ⟨by decide, by decide⟩) rfl (Sto.ofV Ar51 q51a O1 (Ins.self (E_PRE_DECREMENT.ext x49))) (g := (mkF m 173 #[.val (.int p0), .unset, .unset, .unset, .unset, .unset] [(.ref (A 24)), (.int (24 : Int32)), (.ref b1), (.ref b1)])) rfl rfl (hb hby at_173)
    have V51 : Arv Z h51 b1 k1 (.object "com/example/kilnbyte/kilnbyte/tree/Operator") (27 : Int32) [.ref (A 0), .ref (A 1), .ref (A 2), .ref (A 3), .ref (A 4), .ref (A 5), .ref (A 6), .ref (A 7), .ref (A 8), .ref (A 9), .ref (A 10), .ref (A 11), .ref (A 12), .ref (A 13), .ref (A 14), .ref (A 15), .ref (A 16), .ref (A 17), .ref (A 18), .ref (A 19), .ref (A 20), .ref (A 21), .ref (A 22), .ref (A 23), .ref (A 24), .null, .null] .null := Arv.set Ar51 q51a q51b q51c q51d q51e rfl W51 24 rfl (Nat.le_of_ble_eq_true rfl)
    have x51 : Ext Z.heap h51 := own_xw x49 W51 q1
    have N51 := Fr.snoc X51 N49 q1
    refine own_go (B := T51.setTop (mkF m 174 #[.val (.int p0), .unset, .unset, .unset, .unset, .unset] [(.ref b1)])) st51 ?_
    refine own_go (B := T51.setTop (mkF m 175 #[.val (.int p0), .unset, .unset, .unset, .unset, .unset] [(.ref b1), (.ref b1)])) (fun _ k => XS.dup X51.here hx rfl (hb hby at_174) rfl rfl k) ?_
    refine own_go (B := T51.setTop (mkF m 177 #[.val (.int p0), .unset, .unset, .unset, .unset, .unset] [(.int (25 : Int32)), (.ref b1), (.ref b1)])) (fun _ k => XT.bipushV X51.here hx rfl (25 : Int32) (hb hby at_175) (by decide) k) ?_
    obtain ⟨T52, X52, e52, st52⟩ := getS2 X51 hx hZ hown (host := "") (Or.inl (hw _ (List.mem_of_getElem? (i := 54) rfl))) Via.refl e51 (S_POST_INCREMENT.ext x51) (g := (mkF m 177 #[.val (.int p0), .unset, .unset, .unset, .unset, .unset] [(.int (25 : Int32)), (.ref b1), (.ref b1)])) rfl (hb hby at_177)
    refine own_go (B := T52.setTop (mkF m 180 #[.val (.int p0), .unset, .unset, .unset, .unset, .unset] [(.ref (A 25)), (.int (25 : Int32)), (.ref b1), (.ref b1)])) st52 ?_
    obtain ⟨cl53, Ar53, q53a, q53b, q53c, q53d, q53e⟩ := id V51
    obtain ⟨T53, h53, X53, e53, W53, st53⟩ := stR X52 hx hZ e52 Ar53 (j := (25 : Int32)) (inb_of q53b ⟨by decide, by decide⟩) rfl (Sto.ofV Ar53 q53a O1 (Ins.self (E_POST_INCREMENT.ext x51))) (g := (mkF m 180 #[.val (.int p0), .unset, .unset, .unset, .unset, .unset] [(.ref (A 25)), (.int (25 : Int32)), (.ref b1), (.ref b1)])) rfl rfl (hb hby at_180)
    have V53 : Arv Z h53 b1 k1 (.object "com/example/kilnbyte/kilnbyte/tree/Operator") (27 : Int32) [.ref (A 0), .ref (A 1), .ref (A 2), .ref (A 3), .ref (A 4), .ref (A 5), .ref (A 6), .ref (A 7), .ref (A 8), .ref (A 9), .ref (A 10), .ref (A 11), .ref (A 12), .ref (A 13), .ref (A 14), .ref (A 15), .ref (A 16), .ref (A 17), .ref (A 18), .ref (A 19), .ref (A 20), .ref (A 21), .ref (A 22), .ref (A 23), .ref (A 24), .ref (A 25), .null] .null := Arv.set Ar53 q53a q53b q53c q53d q53e rfl W53 25 rfl (Nat.le_of_ble_eq_true rfl)
    have x53 : Ext Z.heap h53 := own_xw x51 W53 q1
    have N53 := Fr.snoc X53 N51 q1
    refine own_go (B := T53.setTop (mkF m 181 #[.val (.int p0), .unset, .unset, .unset, .unset, .unset] [(.ref b1)])) st53 ?_
    refine own_go (B := T53.setTop (mkF m 182 #[.val (.int p0), .unset, .unset, .unset, .unset, .unset] [(.ref b1), (.ref b1)])) (fun _ k => XS.dup X53.here hx rfl (hb hby at_181) rfl rfl k) ?_
    refine own_go (B := T53.setTop (mkF m 184 #[.val (.int p0), .unset, .unset, .unset, .unset, .unset] [(.int (26 : Int32)), (.ref b1), (.ref b1)])) (fun _ k => XT.bipushV X53.here hx rfl (26 : Int32) (hb hby at_182) (by decide) k) ?_
    obtain ⟨T54, X54, e54, st54⟩ := getS2 X53 hx hZ hown (host := "") (Or.inl (hw _ (List.mem_of_getElem? (i := 56) rfl))) Via.refl e53 (S_POST_DECREMENT.ext x53) (g := (mkF m 184 #[.val (.int p0), .unset, .unset, .unset, .unset, .unset] [(.int (26 : Int32)), (.ref b1), (.ref b1)])) rfl (hb hby at_184)
    refine own_go (B := T54.setTop (mkF m 187 #[.val (.int p0), .unset, .unset, .unset, .unset, .unset] [(.ref (A 26)), (.int (26 : Int32)), (.ref b1), (.ref b1)])) st54 ?_
    obtain ⟨cl55, Ar55, q55a, q55b, q55c, q55d, q55e⟩ := id V53
    obtain ⟨T55, h55, X55, e55, W55, st55⟩ := stR X54 hx hZ e54 Ar55 (j := (26 : Int32)) (inb_of q55b ⟨by decide, by decide⟩) rfl (Sto.ofV Ar55 q55a O1 (Ins.self (E_POST_DECREMENT.ext x53))) (g := (mkF m 187 #[.val (.int p0), .unset, .unset, .unset, .unset, .unset] [(.ref (A 26)), (.int (26 : Int32)), (.ref b1), (.ref b1)])) rfl rfl (hb hby at_187)
    have V55 : Arv Z h55 b1 k1 (.object "com/example/kilnbyte/kilnbyte/tree/Operator") (27 : Int32) [.ref (A 0), .ref (A 1), .ref (A 2), .ref (A 3), .ref (A 4), .ref (A 5), .ref (A 6), .ref (A 7), .ref (A 8), .ref (A 9), .ref (A 10), .ref (A 11), .ref (A 12), .ref (A 13), .ref (A 14), .ref (A 15), .ref (A 16), .ref (A 17), .ref (A 18), .ref (A 19), .ref (A 20), .ref (A 21), .ref (A 22), .ref (A 23), .ref (A 24), .ref (A 25), .ref (A 26)] .null := Arv.set Ar55 q55a q55b q55c q55d q55e rfl W55 26 rfl (Nat.le_of_ble_eq_true rfl)
    have x55 : Ext Z.heap h55 := own_xw x53 W55 q1
    have N55 := Fr.snoc X55 N53 q1
    refine own_go (B := T55.setTop (mkF m 188 #[.val (.int p0), .unset, .unset, .unset, .unset, .unset] [(.ref b1)])) st55 ?_
    refine own_go (B := T55.setTop (mkF m 189 #[.val (.int p0), .val (.ref b1), .unset, .unset, .unset, .unset] [])) (fun _ k => XS.astoreN X55.here hx rfl (hb hby at_188) rfl rfl (l' := #[.val (.int p0), .val (.ref b1), .unset, .unset, .unset, .unset]) rfl k) ?_
    exact hT56 _ _ _ _ _ X55 e55 x55 N55 q1 V55
  intro b56' k56' T56' h56' L56' X56' e56' x56' N56' q56' V56'
  refine own_go (B := T56'.setTop (mkF m 190 #[.val (.int p0), .val (.ref b56'), .unset, .unset, .unset, .unset] [(.int p0)])) (fun _ k => XS.iloadN X56'.here hx rfl (hb hby at_189) rfl k) ?_
  refine own_go (B := T56'.setTop (mkF m 192 #[.val (.int p0), .val (.ref b56'), .unset, .unset, .unset, .unset] [(.int (2147483647 : Int32)), (.int p0)])) (fun _ k => Jvm.Stand.ldcI X56' hx hown (mvT hZ (hw _ (List.mem_of_getElem? (i := 58) rfl))) (g := (mkF m 190 #[.val (.int p0), .val (.ref b56'), .unset, .unset, .unset, .unset] [(.int p0)])) rfl (hb hby at_190) k) ?_
  refine own_go (B := T56'.setTop (mkF m 193 #[.val (.int p0), .val (.ref b56'), .unset, .unset, .unset, .unset] [(.int (p0 &&& (2147483647 : Int32)))])) (fun _ k => XS.iand X56'.here hx rfl (hb hby at_192) rfl k) ?_
  refine own_go (B := T56'.setTop (mkF m 195 #[.val (.int p0), .val (.ref b56'), .unset, .unset, .unset, .unset] [(.int (27 : Int32)), (.int (p0 &&& (2147483647 : Int32)))])) (fun _ k => XT.bipushV X56'.here hx rfl (27 : Int32) (hb hby at_193) (by decide) k) ?_
  refine own_go (B := T56'.setTop (mkF m 196 #[.val (.int p0), .val (.ref b56'), .unset, .unset, .unset, .unset] [(.int ((p0 &&& (2147483647 : Int32)) % (27 : Int32)))])) (fun _ k => iremM (g := (mkF m 195 #[.val (.int p0), .val (.ref b56'), .unset, .unset, .unset, .unset] [(.int (27 : Int32)), (.int (p0 &&& (2147483647 : Int32)))])) X56' hx rfl (hb hby at_195) rfl (by decide) k) ?_
  refine own_go (B := T56'.setTop (mkF m 197 #[.val (.int p0), .val (.ref b56'), .val (.int ((p0 &&& (2147483647 : Int32)) % (27 : Int32))), .unset, .unset, .unset] [])) (fun _ k => XS.istoreN X56'.here hx rfl (hb hby at_196) rfl (l' := #[.val (.int p0), .val (.ref b56'), .val (.int ((p0 &&& (2147483647 : Int32)) % (27 : Int32))), .unset, .unset, .unset]) rfl k) ?_
  obtain ⟨ip0, hip0⟩ : ∃ z : Int32, ((p0 &&& (2147483647 : Int32)) % (27 : Int32)) = z := ⟨_, rfl⟩
  rw [hip0]
  have hcs := own_c27 p0
  rw [hip0] at hcs
  rcases hcs with rfl | rfl | rfl | rfl | rfl | rfl | rfl | rfl | rfl | rfl | rfl | rfl | rfl | rfl | rfl | rfl | rfl | rfl | rfl | rfl | rfl | rfl | rfl | rfl | rfl | rfl | rfl
  · refine own_go (B := T56'.setTop (mkF m 198 #[.val (.int p0), .val (.ref b56'), .val (.int (0 : Int32)), .unset, .unset, .unset] [(.ref b56')])) (fun _ k => XS.aloadN X56'.here hx rfl (hb hby at_197) rfl rfl k) ?_
    refine own_go (B := T56'.setTop (mkF m 199 #[.val (.int p0), .val (.ref b56'), .val (.int (0 : Int32)), .unset, .unset, .unset] [(.int (0 : Int32)), (.ref b56')])) (fun _ k => XS.iloadN X56'.here hx rfl (hb hby at_198) rfl k) ?_
    obtain ⟨cl57, Ar57, q57a, q57b, q57c, q57d, q57e⟩ := id V56'
    have i57 := inb_of (j := (0 : Int32)) q57b ⟨by decide, by decide⟩
    refine own_go (B := T56'.setTop (mkF m 200 #[.val (.int p0), .val (.ref b56'), .val (.int (0 : Int32)), .unset, .unset, .unset] [(.ref (A 0))])) (fun _ k => X56'.aaload hx (j := (0 : Int32)) (v := (.ref (A 0))) (by rw [e56']; exact Ar57.1) (State.isArrayOf_alike hZ.alike Ar57.2.1) rfl Ar57.2.2 i57 (Has.at q57d i57 rfl) (g := (mkF m 199 #[.val (.int p0), .val (.ref b56'), .val (.int (0 : Int32)), .unset, .unset, .unset] [(.int (0 : Int32)), (.ref b56')])) rfl rfl (hb hby at_199) _ k) ?_
    refine own_go (B := T56'.setTop (mkF m 201 #[.val (.int p0), .val (.ref b56'), .val (.int (0 : Int32)), .val (.ref (A 0)), .unset, .unset] [])) (fun _ k => XS.astoreN X56'.here hx rfl (hb hby at_200) rfl rfl (l' := #[.val (.int p0), .val (.ref b56'), .val (.int (0 : Int32)), .val (.ref (A 0)), .unset, .unset]) rfl k) ?_
    refine own_go (B := T56'.setTop (mkF m 202 #[.val (.int p0), .val (.ref b56'), .val (.int (0 : Int32)), .val (.ref (A 0)), .unset, .unset] [(.ref (A 0))])) (fun _ k => XS.aloadN X56'.here hx rfl (hb hby at_201) rfl rfl k) ?_
    obtain ⟨cq58, kq58, q58a, q58b, q58c⟩ := isOf hZ e56' (E_MULTIPLY.ext x56')
    obtain ⟨_, _, ⟨T58, L58, k58, n58⟩, -, X58, ⟨Lc58, hQ58, l58, y58, z58⟩, st58⟩ := X56'.virtualBack hx (y := (⟨"com/example/kilnbyte/kilnbyte/tree/Operator", "precedence", "()I"⟩ : MethodName)) (z := (⟨"com/example/kilnbyte/kilnbyte/tree/Operator", "precedence", "()I"⟩ : MethodName)) hown (mvT hZ (hw _ (List.mem_of_getElem? (i := 59) rfl))) (mvT hZ (hw _ (List.mem_of_getElem? (i := 60) rfl))) (notFace_of_selects (args := #[]) (mvT hZ (hw _ (List.mem_of_getElem? (i := 62) rfl)))) (mvT hZ (hw _ (List.mem_of_getElem? (i := 62) rfl))) (mvT hZ (hw _ (List.mem_of_getElem? (i := 61) rfl))) (by decide) (own_back (W := 0) (rm1_0 l Z a0 hw []  A hW h56' x56' ) hZ (hw _ (List.mem_of_getElem? (i := 63) rfl)) (hw _ (List.mem_of_getElem? (i := 3) rfl)) (by decide) (by decide)) q58a q58c (g := (mkF m 202 #[.val (.int p0), .val (.ref b56'), .val (.int (0 : Int32)), .val (.ref (A 0)), .unset, .unset] [(.ref (A 0))])) rfl (by rw [hml]; rfl) (Steps.refl _) (argsL := []) (rest := []) (lenOf pd_0 rfl) rfl (by show 2 * 0 + _ ≤ _; exact Nat.le_of_eq rfl) (hb hby at_202) (fun _ _ => ⟨rfl, e56', (by decide : 1 + 0 ≤ _), (by decide : 27 + 0 ≤ _)⟩)
    dsimp only [Pt.U, Pt.locs, Pt.cells, Pt.slots] at X58 l58 y58 z58 st58 hQ58
    subst l58 y58 z58
    obtain ⟨rfl, N58q, e58⟩ := hQ58
    have N58 := Fr.app N56' N58q
    refine own_go (B := T58.setTop (mkF m 205 #[.val (.int p0), .val (.ref b56'), .val (.int (0 : Int32)), .val (.ref (A 0)), .unset, .unset] [(.int (10 : Int32))])) (fun _ k => st58.trans k) ?_
    refine own_go (B := T58.setTop (mkF m 207 #[.val (.int p0), .val (.ref b56'), .val (.int (0 : Int32)), .val (.ref (A 0)), .val (.int (10 : Int32)), .unset] [])) (fun _ k => XS.istore X58.here hx rfl (hb hby at_205) rfl (l' := #[.val (.int p0), .val (.ref b56'), .val (.int (0 : Int32)), .val (.ref (A 0)), .val (.int (10 : Int32)), .unset]) rfl k) ?_
    refine own_go (B := T58.setTop (mkF m 209 #[.val (.int p0), .val (.ref b56'), .val (.int (0 : Int32)), .val (.ref (A 0)), .val (.int (10 : Int32)), .unset] [(.int (10 : Int32))])) (fun _ k => XS.iload X58.here hx rfl (hb hby at_207) rfl k) ?_
    refine own_go (B := T58.setTop (mkF m 210 #[.val (.int p0), .val (.ref b56'), .val (.int (0 : Int32)), .val (.ref (A 0)), .val (.int (10 : Int32)), .unset] [(.int (3 : Int32)), (.int (10 : Int32))])) (fun _ k => XT.iconstV X58.here hx rfl (3 : Int32) (hb hby at_209) rfl k) ?_
    refine own_go (B := T58.setTop (mkF m 213 #[.val (.int p0), .val (.ref b56'), .val (.int (0 : Int32)), .val (.ref (A 0)), .val (.int (10 : Int32)), .unset] [])) (fun _ k => XS.icmpNo X58.here hx rfl (hb hby at_210) rfl (by decide) k) ?_
    refine own_go (B := T58.setTop (mkF m 215 #[.val (.int p0), .val (.ref b56'), .val (.int (0 : Int32)), .val (.ref (A 0)), .val (.int (10 : Int32)), .unset] [(.int (10 : Int32))])) (fun _ k => XS.iload X58.here hx rfl (hb hby at_213) rfl k) ?_
    refine own_go (B := T58.setTop (mkF m 216 #[.val (.int p0), .val (.ref b56'), .val (.int (0 : Int32)), .val (.ref (A 0)), .val (.int (10 : Int32)), .unset] [(.int (5 : Int32)), (.int (10 : Int32))])) (fun _ k => XT.iconstV X58.here hx rfl (5 : Int32) (hb hby at_215) rfl k) ?_
    refine own_go (B := T58.setTop (mkF m 223 #[.val (.int p0), .val (.ref b56'), .val (.int (0 : Int32)), .val (.ref (A 0)), .val (.int (10 : Int32)), .unset] [])) (fun _ k => XS.icmpYes X58.here hx rfl (pc0 := 216) (pc' := 223) rfl (hb hby at_216) rfl (by decide) (by decide) (by decide) k) ?_
    refine own_go (B := T58.setTop (mkF m 224 #[.val (.int p0), .val (.ref b56'), .val (.int (0 : Int32)), .val (.ref (A 0)), .val (.int (10 : Int32)), .unset] [(.int (0 : Int32))])) (fun _ k => XT.iconstV X58.here hx rfl (0 : Int32) (hb hby at_223) rfl k) ?_
    refine own_go (B := T58.setTop (mkF m 226 #[.val (.int p0), .val (.ref b56'), .val (.int (0 : Int32)), .val (.ref (A 0)), .val (.int (10 : Int32)), .val (.int (0 : Int32))] [])) (fun _ k => XS.istore X58.here hx rfl (hb hby at_224) rfl (l' := #[.val (.int p0), .val (.ref b56'), .val (.int (0 : Int32)), .val (.ref (A 0)), .val (.int (10 : Int32)), .val (.int (0 : Int32))]) rfl k) ?_
    refine own_go (B := T58.setTop (mkF m 227 #[.val (.int p0), .val (.ref b56'), .val (.int (0 : Int32)), .val (.ref (A 0)), .val (.int (10 : Int32)), .val (.int (0 : Int32))] [(.ref (A 0))])) (fun _ k => XS.aloadN X58.here hx rfl (hb hby at_226) rfl rfl k) ?_
    obtain ⟨cq59, kq59, q59a, q59b, q59c⟩ := isOf hZ e58 (E_MULTIPLY.ext x56')
    obtain ⟨_, _, ⟨T59, L59, k59, n59⟩, -, X59, ⟨Lc59, hQ59, l59, y59, z59⟩, st59⟩ := X58.virtualBack hx (y := (⟨"com/example/kilnbyte/kilnbyte/tree/Operator", "isBitwise", "()Z"⟩ : MethodName)) (z := (⟨"com/example/kilnbyte/kilnbyte/tree/Operator", "isBitwise", "()Z"⟩ : MethodName)) hown (mvT hZ (hw _ (List.mem_of_getElem? (i := 66) rfl))) (mvT hZ (hw _ (List.mem_of_getElem? (i := 67) rfl))) (notFace_of_selects (args := #[]) (mvT hZ (hw _ (List.mem_of_getElem? (i := 69) rfl)))) (mvT hZ (hw _ (List.mem_of_getElem? (i := 69) rfl))) (mvT hZ (hw _ (List.mem_of_getElem? (i := 68) rfl))) (by decide) (own_back (W := 0) (rm2_0 l Z a0 hw []  A hW h56' x56' ) hZ (hw _ (List.mem_of_getElem? (i := 70) rfl)) (hw _ (List.mem_of_getElem? (i := 3) rfl)) (by decide) (by decide)) q59a q59c (g := (mkF m 227 #[.val (.int p0), .val (.ref b56'), .val (.int (0 : Int32)), .val (.ref (A 0)), .val (.int (10 : Int32)), .val (.int (0 : Int32))] [(.ref (A 0))])) rfl (by rw [hml]; rfl) (Steps.refl _) (argsL := []) (rest := []) (lenOf pd_1 rfl) rfl (by show 2 * 0 + _ ≤ _; exact Nat.le_of_eq rfl) (hb hby at_227) (fun _ _ => ⟨rfl, e58, (by decide : 1 + 0 ≤ _), (by decide : 27 + 0 ≤ _)⟩)
    dsimp only [Pt.U, Pt.locs, Pt.cells, Pt.slots] at X59 l59 y59 z59 st59 hQ59
    subst l59 y59 z59
    obtain ⟨rfl, N59q, e59⟩ := hQ59
    have N59 := Fr.app N58 N59q
    refine own_go (B := T59.setTop (mkF m 230 #[.val (.int p0), .val (.ref b56'), .val (.int (0 : Int32)), .val (.ref (A 0)), .val (.int (10 : Int32)), .val (.int (0 : Int32))] [(.int (0 : Int32))])) (fun _ k => st59.trans k) ?_
    refine own_go (B := T59.setTop (mkF m 232 #[.val (.int p0), .val (.ref b56'), .val (.int (0 : Int32)), .val (.ref (A 0)), .val (.int (10 : Int32)), .val (.int (0 : Int32))] [(.int (0 : Int32)), (.int (0 : Int32))])) (fun _ k => XS.iload X59.here hx rfl (hb hby at_230) rfl k) ?_
    refine own_go (B := T59.setTop (mkF m 235 #[.val (.int p0), .val (.ref b56'), .val (.int (0 : Int32)), .val (.ref (A 0)), .val (.int (10 : Int32)), .val (.int (0 : Int32))] [])) (fun _ k => XS.icmpNo X59.here hx rfl (hb hby at_232) rfl (by decide) k) ?_
    refine own_go (B := T59.setTop (mkF m 236 #[.val (.int p0), .val (.ref b56'), .val (.int (0 : Int32)), .val (.ref (A 0)), .val (.int (10 : Int32)), .val (.int (0 : Int32))] [(.int (1 : Int32))])) (fun _ k => XT.iconstV X59.here hx rfl (1 : Int32) (hb hby at_235) rfl k) ?_
    refine own_go (B := T59.setTop (mkF m 240 #[.val (.int p0), .val (.ref b56'), .val (.int (0 : Int32)), .val (.ref (A 0)), .val (.int (10 : Int32)), .val (.int (0 : Int32))] [(.int (1 : Int32))])) (fun _ k => XS.goto X59.here hx rfl (pc0 := 236) (pc' := 240) rfl (hb hby at_236) (by decide) (by decide) k) ?_
    exact own_ret X59 hx (t := .boolean) hrt rfl (Or.inl ⟨rfl, by simp, _, rfl⟩) (hb hby at_240) hlk ⟨rfl, N59⟩ (by decide) (by decide)
  · refine own_go (B := T56'.setTop (mkF m 198 #[.val (.int p0), .val (.ref b56'), .val (.int (1 : Int32)), .unset, .unset, .unset] [(.ref b56')])) (fun _ k => XS.aloadN X56'.here hx rfl (hb hby at_197) rfl rfl k) ?_
    refine own_go (B := T56'.setTop (mkF m 199 #[.val (.int p0), .val (.ref b56'), .val (.int (1 : Int32)), .unset, .unset, .unset] [(.int (1 : Int32)), (.ref b56')])) (fun _ k => XS.iloadN X56'.here hx rfl (hb hby at_198) rfl k) ?_
    obtain ⟨cl60, Ar60, q60a, q60b, q60c, q60d, q60e⟩ := id V56'
    have i60 := inb_of (j := (1 : Int32)) q60b ⟨by decide, by decide⟩
    refine own_go (B := T56'.setTop (mkF m 200 #[.val (.int p0), .val (.ref b56'), .val (.int (1 : Int32)), .unset, .unset, .unset] [(.ref (A 1))])) (fun _ k => X56'.aaload hx (j := (1 : Int32)) (v := (.ref (A 1))) (by rw [e56']; exact Ar60.1) (State.isArrayOf_alike hZ.alike Ar60.2.1) rfl Ar60.2.2 i60 (Has.at q60d i60 rfl) (g := (mkF m 199 #[.val (.int p0), .val (.ref b56'), .val (.int (1 : Int32)), .unset, .unset, .unset] [(.int (1 : Int32)), (.ref b56')])) rfl rfl (hb hby at_199) _ k) ?_
    refine own_go (B := T56'.setTop (mkF m 201 #[.val (.int p0), .val (.ref b56'), .val (.int (1 : Int32)), .val (.ref (A 1)), .unset, .unset] [])) (fun _ k => XS.astoreN X56'.here hx rfl (hb hby at_200) rfl rfl (l' := #[.val (.int p0), .val (.ref b56'), .val (.int (1 : Int32)), .val (.ref (A 1)), .unset, .unset]) rfl k) ?_
    refine own_go (B := T56'.setTop (mkF m 202 #[.val (.int p0), .val (.ref b56'), .val (.int (1 : Int32)), .val (.ref (A 1)), .unset, .unset] [(.ref (A 1))])) (fun _ k => XS.aloadN X56'.here hx rfl (hb hby at_201) rfl rfl k) ?_
    obtain ⟨cq61, kq61, q61a, q61b, q61c⟩ := isOf hZ e56' (E_DIVIDE.ext x56')
    obtain ⟨_, _, ⟨T61, L61, k61, n61⟩, -, X61, ⟨Lc61, hQ61, l61, y61, z61⟩, st61⟩ := X56'.virtualBack hx (y := (⟨"com/example/kilnbyte/kilnbyte/tree/Operator", "precedence", "()I"⟩ : MethodName)) (z := (⟨"com/example/kilnbyte/kilnbyte/tree/Operator", "precedence", "()I"⟩ : MethodName)) hown (mvT hZ (hw _ (List.mem_of_getElem? (i := 59) rfl))) (mvT hZ (hw _ (List.mem_of_getElem? (i := 60) rfl))) (notFace_of_selects (args := #[]) (mvT hZ (hw _ (List.mem_of_getElem? (i := 62) rfl)))) (mvT hZ (hw _ (List.mem_of_getElem? (i := 62) rfl))) (mvT hZ (hw _ (List.mem_of_getElem? (i := 61) rfl))) (by decide) (own_back (W := 0) (rm1_1 l Z a0 hw []  A hW h56' x56' ) hZ (hw _ (List.mem_of_getElem? (i := 63) rfl)) (hw _ (List.mem_of_getElem? (i := 3) rfl)) (by decide) (by decide)) q61a q61c (g := (mkF m 202 #[.val (.int p0), .val (.ref b56'), .val (.int (1 : Int32)), .val (.ref (A 1)), .unset, .unset] [(.ref (A 1))])) rfl (by rw [hml]; rfl) (Steps.refl _) (argsL := []) (rest := []) (lenOf pd_0 rfl) rfl (by show 2 * 0 + _ ≤ _; exact Nat.le_of_eq rfl) (hb hby at_202) (fun _ _ => ⟨rfl, e56', (by decide : 1 + 0 ≤ _), (by decide : 27 + 0 ≤ _)⟩)
    dsimp only [Pt.U, Pt.locs, Pt.cells, Pt.slots] at X61 l61 y61 z61 st61 hQ61
    subst l61 y61 z61
    obtain ⟨rfl, N61q, e61⟩ := hQ61
    have N61 := Fr.app N56' N61q
    refine own_go (B := T61.setTop (mkF m 205 #[.val (.int p0), .val (.ref b56'), .val (.int (1 : Int32)), .val (.ref (A 1)), .unset, .unset] [(.int (10 : Int32))])) (fun _ k => st61.trans k) ?_
    refine own_go (B := T61.setTop (mkF m 207 #[.val (.int p0), .val (.ref b56'), .val (.int (1 : Int32)), .val (.ref (A 1)), .val (.int (10 : Int32)), .unset] [])) (fun _ k => XS.istore X61.here hx rfl (hb hby at_205) rfl (l' := #[.val (.int p0), .val (.ref b56'), .val (.int (1 : Int32)), .val (.ref (A 1)), .val (.int (10 : Int32)), .unset]) rfl k) ?_
    refine own_go (B := T61.setTop (mkF m 209 #[.val (.int p0), .val (.ref b56'), .val (.int (1 : Int32)), .val (.ref (A 1)), .val (.int (10 : Int32)), .unset] [(.int (10 : Int32))])) (fun _ k => XS.iload X61.here hx rfl (hb hby at_207) rfl k) ?_
    refine own_go (B := T61.setTop (mkF m 210 #[.val (.int p0), .val (.ref b56'), .val (.int (1 : Int32)), .val (.ref (A 1)), .val (.int (10 : Int32)), .unset] [(.int (3 : Int32)), (.int (10 : Int32))])) (fun _ k => XT.iconstV X61.here hx rfl (3 : Int32) (hb hby at_209) rfl k) ?_
    refine own_go (B := T61.setTop (mkF m 213 #[.val (.int p0), .val (.ref b56'), .val (.int (1 : Int32)), .val (.ref (A 1)), .val (.int (10 : Int32)), .unset] [])) (fun _ k => XS.icmpNo X61.here hx rfl (hb hby at_210) rfl (by decide) k) ?_
    refine own_go (B := T61.setTop (mkF m 215 #[.val (.int p0), .val (.ref b56'), .val (.int (1 : Int32)), .val (.ref (A 1)), .val (.int (10 : Int32)), .unset] [(.int (10 : Int32))])) (fun _ k => XS.iload X61.here hx rfl (hb hby at_213) rfl k) ?_
    refine own_go (B := T61.setTop (mkF m 216 #[.val (.int p0), .val (.ref b56'), .val (.int (1 : Int32)), .val (.ref (A 1)), .val (.int (10 : Int32)), .unset] [(.int (5 : Int32)), (.int (10 : Int32))])) (fun _ k => XT.iconstV X61.here hx rfl (5 : Int32) (hb hby at_215) rfl k) ?_
    refine own_go (B := T61.setTop (mkF m 223 #[.val (.int p0), .val (.ref b56'), .val (.int (1 : Int32)), .val (.ref (A 1)), .val (.int (10 : Int32)), .unset] [])) (fun _ k => XS.icmpYes X61.here hx rfl (pc0 := 216) (pc' := 223) rfl (hb hby at_216) rfl (by decide) (by decide) (by decide) k) ?_
    refine own_go (B := T61.setTop (mkF m 224 #[.val (.int p0), .val (.ref b56'), .val (.int (1 : Int32)), .val (.ref (A 1)), .val (.int (10 : Int32)), .unset] [(.int (0 : Int32))])) (fun _ k => XT.iconstV X61.here hx rfl (0 : Int32) (hb hby at_223) rfl k) ?_
    refine own_go (B := T61.setTop (mkF m 226 #[.val (.int p0), .val (.ref b56'), .val (.int (1 : Int32)), .val (.ref (A 1)), .val (.int (10 : Int32)), .val (.int (0 : Int32))] [])) (fun _ k => XS.istore X61.here hx rfl (hb hby at_224) rfl (l' := #[.val (.int p0), .val (.ref b56'), .val (.int (1 : Int32)), .val (.ref (A 1)), .val (.int (10 : Int32)), .val (.int (0 : Int32))]) rfl k) ?_
    refine own_go (B := T61.setTop (mkF m 227 #[.val (.int p0), .val (.ref b56'), .val (.int (1 : Int32)), .val (.ref (A 1)), .val (.int (10 : Int32)), .val (.int (0 : Int32))] [(.ref (A 1))])) (fun _ k => XS.aloadN X61.here hx rfl (hb hby at_226) rfl rfl k) ?_
    obtain ⟨cq62, kq62, q62a, q62b, q62c⟩ := isOf hZ e61 (E_DIVIDE.ext x56')
    obtain ⟨_, _, ⟨T62, L62, k62, n62⟩, -, X62, ⟨Lc62, hQ62, l62, y62, z62⟩, st62⟩ := X61.virtualBack hx (y := (⟨"com/example/kilnbyte/kilnbyte/tree/Operator", "isBitwise", "()Z"⟩ : MethodName)) (z := (⟨"com/example/kilnbyte/kilnbyte/tree/Operator", "isBitwise", "()Z"⟩ : MethodName)) hown (mvT hZ (hw _ (List.mem_of_getElem? (i := 66) rfl))) (mvT hZ (hw _ (List.mem_of_getElem? (i := 67) rfl))) (notFace_of_selects (args := #[]) (mvT hZ (hw _ (List.mem_of_getElem? (i := 69) rfl)))) (mvT hZ (hw _ (List.mem_of_getElem? (i := 69) rfl))) (mvT hZ (hw _ (List.mem_of_getElem? (i := 68) rfl))) (by decide) (own_back (W := 0) (rm2_1 l Z a0 hw []  A hW h56' x56' ) hZ (hw _ (List.mem_of_getElem? (i := 70) rfl)) (hw _ (List.mem_of_getElem? (i := 3) rfl)) (by decide) (by decide)) q62a q62c (g := (mkF m 227 #[.val (.int p0), .val (.ref b56'), .val (.int (1 : Int32)), .val (.ref (A 1)), .val (.int (10 : Int32)), .val (.int (0 : Int32))] [(.ref (A 1))])) rfl (by rw [hml]; rfl) (Steps.refl _) (argsL := []) (rest := []) (lenOf pd_1 rfl) rfl (by show 2 * 0 + _ ≤ _; exact Nat.le_of_eq rfl) (hb hby at_227) (fun _ _ => ⟨rfl, e61, (by decide : 1 + 0 ≤ _), (by decide : 27 + 0 ≤ _)⟩)
    dsimp only [Pt.U, Pt.locs, Pt.cells, Pt.slots] at X62 l62 y62 z62 st62 hQ62
    subst l62 y62 z62
    obtain ⟨rfl, N62q, e62⟩ := hQ62
    have N62 := Fr.app N61 N62q
    refine own_go (B := T62.setTop (mkF m 230 #[.val (.int p0), .val (.ref b56'), .val (.int (1 : Int32)), .val (.ref (A 1)), .val (.int (10 : Int32)), .val (.int (0 : Int32))] [(.int (0 : Int32))])) (fun _ k => st62.trans k) ?_
    refine own_go (B := T62.setTop (mkF m 232 #[.val (.int p0), .val (.ref b56'), .val (.int (1 : Int32)), .val (.ref (A 1)), .val (.int (10 : Int32)), .val (.int (0 : Int32))] [(.int (0 : Int32)), (.int (0 : Int32))])) (fun _ k => XS.iload X62.here hx rfl (hb hby at_230) rfl k) ?_
    refine own_go (B := T62.setTop (mkF m 235 #[.val (.int p0), .val (.ref b56'), .val (.int (1 : Int32)), .val (.ref (A 1)), .val (.int (10 : Int32)), .val (.int (0 : Int32))] [])) (fun _ k => XS.icmpNo X62.here hx rfl (hb hby at_232) rfl (by decide) k) ?_
    refine own_go (B := T62.setTop (mkF m 236 #[.val (.int p0), .val (.ref b56'), .val (.int (1 : Int32)), .val (.ref (A 1)), .val (.int (10 : Int32)), .val (.int (0 : Int32))] [(.int (1 : Int32))])) (fun _ k => XT.iconstV X62.here hx rfl (1 : Int32) (hb hby at_235) rfl k) ?_
    refine own_go (B := T62.setTop (mkF m 240 #[.val (.int p0), .val (.ref b56'), .val (.int (1 : Int32)), .val (.ref (A 1)), .val (.int (10 : Int32)), .val (.int (0 : Int32))] [(.int (1 : Int32))])) (fun _ k => XS.goto X62.here hx rfl (pc0 := 236) (pc' := 240) rfl (hb hby at_236) (by decide) (by decide) k) ?_
    exact own_ret X62 hx (t := .boolean) hrt rfl (Or.inl ⟨rfl, by simp, _, rfl⟩) (hb hby at_240) hlk ⟨rfl, N62⟩ (by decide) (by decide)
  · refine own_go (B := T56'.setTop (mkF m 198 #[.val (.int p0), .val (.ref b56'), .val (.int (2 : Int32)), .unset, .unset, .unset] [(.ref b56')])) (fun _ k => XS.aloadN X56'.here hx rfl (hb hby at_197) rfl rfl k) ?_
    refine own_go (B := T56'.setTop (mkF m 199 #[.val (.int p0), .val (.ref b56'), .val (.int (2 : Int32)), .unset, .unset, .unset] [(.int (2 : Int32)), (.ref b56')])) (fun _ k => XS.iloadN X56'.here hx rfl (hb hby at_198) rfl k) ?_
    obtain ⟨cl63, Ar63, q63a, q63b, q63c, q63d, q63e⟩ := id V56'
    have i63 := inb_of (j := (2 : Int32)) q63b ⟨by decide, by decide⟩
    refine own_go (B := T56'.setTop (mkF m 200 #[.val (.int p0), .val (.ref b56'), .val (.int (2 : Int32)), .unset, .unset, .unset] [(.ref (A 2))])) (fun _ k => X56'.aaload hx (j := (2 : Int32)) (v := (.ref (A 2))) (by rw [e56']; exact Ar63.1) (State.isArrayOf_alike hZ.alike Ar63.2.1) rfl Ar63.2.2 i63 (Has.at q63d i63 rfl) (g := (mkF m 199 #[.val (.int p0), .val (.ref b56'), .val (.int (2 : Int32)), .unset, .unset, .unset] [(.int (2 : Int32)), (.ref b56')])) rfl rfl (hb hby at_199) _ k) ?_
    refine own_go (B := T56'.setTop (mkF m 201 #[.val (.int p0), .val (.ref b56'), .val (.int (2 : Int32)), .val (.ref (A 2)), .unset, .unset] [])) (fun _ k => XS.astoreN X56'.here hx rfl (hb hby at_200) rfl rfl (l' := #[.val (.int p0), .val (.ref b56'), .val (.int (2 : Int32)), .val (.ref (A 2)), .unset, .unset]) rfl k) ?_
    refine own_go (B := T56'.setTop (mkF m 202 #[.val (.int p0), .val (.ref b56'), .val (.int (2 : Int32)), .val (.ref (A 2)), .unset, .unset] [(.ref (A 2))])) (fun _ k => XS.aloadN X56'.here hx rfl (hb hby at_201) rfl rfl k) ?_
    obtain ⟨cq64, kq64, q64a, q64b, q64c⟩ := isOf hZ e56' (E_REMAINDER.ext x56')
    obtain ⟨_, _, ⟨T64, L64, k64, n64⟩, -, X64, ⟨Lc64, hQ64, l64, y64, z64⟩, st64⟩ := X56'.virtualBack hx (y := (⟨"com/example/kilnbyte/kilnbyte/tree/Operator", "precedence", "()I"⟩ : MethodName)) (z := (⟨"com/example/kilnbyte/kilnbyte/tree/Operator", "precedence", "()I"⟩ : MethodName)) hown (mvT hZ (hw _ (List.mem_of_getElem? (i := 59) rfl))) (mvT hZ (hw _ (List.mem_of_getElem? (i := 60) rfl))) (notFace_of_selects (args := #[]) (mvT hZ (hw _ (List.mem_of_getElem? (i := 62) rfl)))) (mvT hZ (hw _ (List.mem_of_getElem? (i := 62) rfl))) (mvT hZ (hw _ (List.mem_of_getElem? (i := 61) rfl))) (by decide) (own_back (W := 0) (rm1_2 l Z a0 hw []  A hW h56' x56' ) hZ (hw _ (List.mem_of_getElem? (i := 63) rfl)) (hw _ (List.mem_of_getElem? (i := 3) rfl)) (by decide) (by decide)) q64a q64c (g := (mkF m 202 #[.val (.int p0), .val (.ref b56'), .val (.int (2 : Int32)), .val (.ref (A 2)), .unset, .unset] [(.ref (A 2))])) rfl (by rw [hml]; rfl) (Steps.refl _) (argsL := []) (rest := []) (lenOf pd_0 rfl) rfl (by show 2 * 0 + _ ≤ _; exact Nat.le_of_eq rfl) (hb hby at_202) (fun _ _ => ⟨rfl, e56', (by decide : 1 + 0 ≤ _), (by decide : 27 + 0 ≤ _)⟩)
    dsimp only [Pt.U, Pt.locs, Pt.cells, Pt.slots] at X64 l64 y64 z64 st64 hQ64
    subst l64 y64 z64
    obtain ⟨rfl, N64q, e64⟩ := hQ64
    have N64 := Fr.app N56' N64q
    refine own_go (B := T64.setTop (mkF m 205 #[.val (.int p0), .val (.ref b56'), .val (.int (2 : Int32)), .val (.ref (A 2)), .unset, .unset] [(.int (10 : Int32))])) (fun _ k => st64.trans k) ?_
    refine own_go (B := T64.setTop (mkF m 207 #[.val (.int p0), .val (.ref b56'), .val (.int (2 : Int32)), .val (.ref (A 2)), .val (.int (10 : Int32)), .unset] [])) (fun _ k => XS.istore X64.here hx rfl (hb hby at_205) rfl (l' := #[.val (.int p0), .val (.ref b56'), .val (.int (2 : Int32)), .val (.ref (A 2)), .val (.int (10 : Int32)), .unset]) rfl k) ?_
    refine own_go (B := T64.setTop (mkF m 209 #[.val (.int p0), .val (.ref b56'), .val (.int (2 : Int32)), .val (.ref (A 2)), .val (.int (10 : Int32)), .unset] [(.int (10 : Int32))])) (fun _ k => XS.iload X64.here hx rfl (hb hby at_207) rfl k) ?_
    refine own_go (B := T64.setTop (mkF m 210 #[.val (.int p0), .val (.ref b56'), .val (.int (2 : Int32)), .val (.ref (A 2)), .val (.int (10 : Int32)), .unset] [(.int (3 : Int32)), (.int (10 : Int32))])) (fun _ k => XT.iconstV X64.here hx rfl (3 : Int32) (hb hby at_209) rfl k) ?_
    refine own_go (B := T64.setTop (mkF m 213 #[.val (.int p0), .val (.ref b56'), .val (.int (2 : Int32)), .val (.ref (A 2)), .val (.int (10 : Int32)), .unset] [])) (fun _ k => XS.icmpNo X64.here hx rfl (hb hby at_210) rfl (by decide) k) ?_
    refine own_go (B := T64.setTop (mkF m 215 #[.val (.int p0), .val (.ref b56'), .val (.int (2 : Int32)), .val (.ref (A 2)), .val (.int (10 : Int32)), .unset] [(.int (10 : Int32))])) (fun _ k => XS.iload X64.here hx rfl (hb hby at_213) rfl k) ?_
    refine own_go (B := T64.setTop (mkF m 216 #[.val (.int p0), .val (.ref b56'), .val (.int (2 : Int32)), .val (.ref (A 2)), .val (.int (10 : Int32)), .unset] [(.int (5 : Int32)), (.int (10 : Int32))])) (fun _ k => XT.iconstV X64.here hx rfl (5 : Int32) (hb hby at_215) rfl k) ?_
    refine own_go (B := T64.setTop (mkF m 223 #[.val (.int p0), .val (.ref b56'), .val (.int (2 : Int32)), .val (.ref (A 2)), .val (.int (10 : Int32)), .unset] [])) (fun _ k => XS.icmpYes X64.here hx rfl (pc0 := 216) (pc' := 223) rfl (hb hby at_216) rfl (by decide) (by decide) (by decide) k) ?_
    refine own_go (B := T64.setTop (mkF m 224 #[.val (.int p0), .val (.ref b56'), .val (.int (2 : Int32)), .val (.ref (A 2)), .val (.int (10 : Int32)), .unset] [(.int (0 : Int32))])) (fun _ k => XT.iconstV X64.here hx rfl (0 : Int32) (hb hby at_223) rfl k) ?_
    refine own_go (B := T64.setTop (mkF m 226 #[.val (.int p0), .val (.ref b56'), .val (.int (2 : Int32)), .val (.ref (A 2)), .val (.int (10 : Int32)), .val (.int (0 : Int32))] [])) (fun _ k => XS.istore X64.here hx rfl (hb hby at_224) rfl (l' := #[.val (.int p0), .val (.ref b56'), .val (.int (2 : Int32)), .val (.ref (A 2)), .val (.int (10 : Int32)), .val (.int (0 : Int32))]) rfl k) ?_
    refine own_go (B := T64.setTop (mkF m 227 #[.val (.int p0), .val (.ref b56'), .val (.int (2 : Int32)), .val (.ref (A 2)), .val (.int (10 : Int32)), .val (.int (0 : Int32))] [(.ref (A 2))])) (fun _ k => XS.aloadN X64.here hx rfl (hb hby at_226) rfl rfl k) ?_
    obtain ⟨cq65, kq65, q65a, q65b, q65c⟩ := isOf hZ e64 (E_REMAINDER.ext x56')
    obtain ⟨_, _, ⟨T65, L65, k65, n65⟩, -, X65, ⟨Lc65, hQ65, l65, y65, z65⟩, st65⟩ := X64.virtualBack hx (y := (⟨"com/example/kilnbyte/kilnbyte/tree/Operator", "isBitwise", "()Z"⟩ : MethodName)) (z := (⟨"com/example/kilnbyte/kilnbyte/tree/Operator", "isBitwise", "()Z"⟩ : MethodName)) hown (mvT hZ (hw _ (List.mem_of_getElem? (i := 66) rfl))) (mvT hZ (hw _ (List.mem_of_getElem? (i := 67) rfl))) (notFace_of_selects (args := #[]) (mvT hZ (hw _ (List.mem_of_getElem? (i := 69) rfl)))) (mvT hZ (hw _ (List.mem_of_getElem? (i := 69) rfl))) (mvT hZ (hw _ (List.mem_of_getElem? (i := 68) rfl))) (by decide) (own_back (W := 0) (rm2_2 l Z a0 hw []  A hW h56' x56' ) hZ (hw _ (List.mem_of_getElem? (i := 70) rfl)) (hw _ (List.mem_of_getElem? (i := 3) rfl)) (by decide) (by decide)) q65a q65c (g := (mkF m 227 #[.val (.int p0), .val (.ref b56'), .val (.int (2 : Int32)), .val (.ref (A 2)), .val (.int (10 : Int32)), .val (.int (0 : Int32))] [(.ref (A 2))])) rfl (by rw [hml]; rfl) (Steps.refl _) (argsL := []) (rest := []) (lenOf pd_1 rfl) rfl (by show 2 * 0 + _ ≤ _; exact Nat.le_of_eq rfl) (hb hby at_227) (fun _ _ => ⟨rfl, e64, (by decide : 1 + 0 ≤ _), (by decide : 27 + 0 ≤ _)⟩)
    dsimp only [Pt.U, Pt.locs, Pt.cells, Pt.slots] at X65 l65 y65 z65 st65 hQ65
    subst l65 y65 z65
    obtain ⟨rfl, N65q, e65⟩ := hQ65
    have N65 := Fr.app N64 N65q
    refine own_go (B := T65.setTop (mkF m 230 #[.val (.int p0), .val (.ref b56'), .val (.int (2 : Int32)), .val (.ref (A 2)), .val (.int (10 : Int32)), .val (.int (0 : Int32))] [(.int (0 : Int32))])) (fun _ k => st65.trans k) ?_
    refine own_go (B := T65.setTop (mkF m 232 #[.val (.int p0), .val (.ref b56'), .val (.int (2 : Int32)), .val (.ref (A 2)), .val (.int (10 : Int32)), .val (.int (0 : Int32))] [(.int (0 : Int32)), (.int (0 : Int32))])) (fun _ k => XS.iload X65.here hx rfl (hb hby at_230) rfl k) ?_
    refine own_go (B := T65.setTop (mkF m 235 #[.val (.int p0), .val (.ref b56'), .val (.int (2 : Int32)), .val (.ref (A 2)), .val (.int (10 : Int32)), .val (.int (0 : Int32))] [])) (fun _ k => XS.icmpNo X65.here hx rfl (hb hby at_232) rfl (by decide) k) ?_
    refine own_go (B := T65.setTop (mkF m 236 #[.val (.int p0), .val (.ref b56'), .val (.int (2 : Int32)), .val (.ref (A 2)), .val (.int (10 : Int32)), .val (.int (0 : Int32))] [(.int (1 : Int32))])) (fun _ k => XT.iconstV X65.here hx rfl (1 : Int32) (hb hby at_235) rfl k) ?_
    refine own_go (B := T65.setTop (mkF m 240 #[.val (.int p0), .val (.ref b56'), .val (.int (2 : Int32)), .val (.ref (A 2)), .val (.int (10 : Int32)), .val (.int (0 : Int32))] [(.int (1 : Int32))])) (fun _ k => XS.goto X65.here hx rfl (pc0 := 236) (pc' := 240) rfl (hb hby at_236) (by decide) (by decide) k) ?_
    exact own_ret X65 hx (t := .boolean) hrt rfl (Or.inl ⟨rfl, by simp, _, rfl⟩) (hb hby at_240) hlk ⟨rfl, N65⟩ (by decide) (by decide)
  · refine own_go (B := T56'.setTop (mkF m 198 #[.val (.int p0), .val (.ref b56'), .val (.int (3 : Int32)), .unset, .unset, .unset] [(.ref b56')])) (fun _ k => XS.aloadN X56'.here hx rfl (hb hby at_197) rfl rfl k) ?_
    refine own_go (B := T56'.setTop (mkF m 199 #[.val (.int p0), .val (.ref b56'), .val (.int (3 : Int32)), .unset, .unset, .unset] [(.int (3 : Int32)), (.ref b56')])) (fun _ k => XS.iloadN X56'.here hx rfl (hb hby at_198) rfl k) ?_
    obtain ⟨cl66, Ar66, q66a, q66b, q66c, q66d, q66e⟩ := id V56'
    have i66 := inb_of (j := (3 : Int32)) q66b ⟨by decide, by decide⟩
    refine own_go (B := T56'.setTop (mkF m 200 #[.val (.int p0), .val (.ref b56'), .val (.int (3 : Int32)), .unset, .unset, .unset] [(.ref (A 3))])) (fun _ k => X56'.aaload hx (j := (3 : Int32)) (v := (.ref (A 3))) (by rw [e56']; exact Ar66.1) (State.isArrayOf_alike hZ.alike Ar66.2.1) rfl Ar66.2.2 i66 (Has.at q66d i66 rfl) (g := (mkF m 199 #[.val (.int p0), .val (.ref b56'), .val (.int (3 : Int32)), .unset, .unset, .unset] [(.int (3 : Int32)), (.ref b56')])) rfl rfl (hb hby at_199) _ k) ?_
    refine own_go (B := T56'.setTop (mkF m 201 #[.val (.int p0), .val (.ref b56'), .val (.int (3 : Int32)), .val (.ref (A 3)), .unset, .unset] [])) (fun _ k => XS.astoreN X56'.here hx rfl (hb hby at_200) rfl rfl (l' := #[.val (.int p0), .val (.ref b56'), .val (.int (3 : Int32)), .val (.ref (A 3)), .unset, .unset]) rfl k) ?_
    refine own_go (B := T56'.setTop (mkF m 202 #[.val (.int p0), .val (.ref b56'), .val (.int (3 : Int32)), .val (.ref (A 3)), .unset, .unset] [(.ref (A 3))])) (fun _ k => XS.aloadN X56'.here hx rfl (hb hby at_201) rfl rfl k) ?_
    obtain ⟨cq67, kq67, q67a, q67b, q67c⟩ := isOf hZ e56' (E_ADD.ext x56')
    obtain ⟨_, _, ⟨T67, L67, k67, n67⟩, -, X67, ⟨Lc67, hQ67, l67, y67, z67⟩, st67⟩ := X56'.virtualBack hx (y := (⟨"com/example/kilnbyte/kilnbyte/tree/Operator", "precedence", "()I"⟩ : MethodName)) (z := (⟨"com/example/kilnbyte/kilnbyte/tree/Operator", "precedence", "()I"⟩ : MethodName)) hown (mvT hZ (hw _ (List.mem_of_getElem? (i := 59) rfl))) (mvT hZ (hw _ (List.mem_of_getElem? (i := 60) rfl))) (notFace_of_selects (args := #[]) (mvT hZ (hw _ (List.mem_of_getElem? (i := 62) rfl)))) (mvT hZ (hw _ (List.mem_of_getElem? (i := 62) rfl))) (mvT hZ (hw _ (List.mem_of_getElem? (i := 61) rfl))) (by decide) (own_back (W := 0) (rm1_3 l Z a0 hw []  A hW h56' x56' ) hZ (hw _ (List.mem_of_getElem? (i := 63) rfl)) (hw _ (List.mem_of_getElem? (i := 3) rfl)) (by decide) (by decide)) q67a q67c (g := (mkF m 202 #[.val (.int p0), .val (.ref b56'), .val (.int (3 : Int32)), .val (.ref (A 3)), .unset, .unset] [(.ref (A 3))])) rfl (by rw [hml]; rfl) (Steps.refl _) (argsL := []) (rest := []) (lenOf pd_0 rfl) rfl (by show 2 * 0 + _ ≤ _; exact Nat.le_of_eq rfl) (hb hby at_202) (fun _ _ => ⟨rfl, e56', (by decide : 1 + 0 ≤ _), (by decide : 27 + 0 ≤ _)⟩)
    dsimp only [Pt.U, Pt.locs, Pt.cells, Pt.slots] at X67 l67 y67 z67 st67 hQ67
    subst l67 y67 z67
    obtain ⟨rfl, N67q, e67⟩ := hQ67
    have N67 := Fr.app N56' N67q
    refine own_go (B := T67.setTop (mkF m 205 #[.val (.int p0), .val (.ref b56'), .val (.int (3 : Int32)), .val (.ref (A 3)), .unset, .unset] [(.int (9 : Int32))])) (fun _ k => st67.trans k) ?_
    refine own_go (B := T67.setTop (mkF m 207 #[.val (.int p0), .val (.ref b56'), .val (.int (3 : Int32)), .val (.ref (A 3)), .val (.int (9 : Int32)), .unset] [])) (fun _ k => XS.istore X67.here hx rfl (hb hby at_205) rfl (l' := #[.val (.int p0), .val (.ref b56'), .val (.int (3 : Int32)), .val (.ref (A 3)), .val (.int (9 : Int32)), .unset]) rfl k) ?_
    refine own_go (B := T67.setTop (mkF m 209 #[.val (.int p0), .val (.ref b56'), .val (.int (3 : Int32)), .val (.ref (A 3)), .val (.int (9 : Int32)), .unset] [(.int (9 : Int32))])) (fun _ k => XS.iload X67.here hx rfl (hb hby at_207) rfl k) ?_
    refine own_go (B := T67.setTop (mkF m 210 #[.val (.int p0), .val (.ref b56'), .val (.int (3 : Int32)), .val (.ref (A 3)), .val (.int (9 : Int32)), .unset] [(.int (3 : Int32)), (.int (9 : Int32))])) (fun _ k => XT.iconstV X67.here hx rfl (3 : Int32) (hb hby at_209) rfl k) ?_
    refine own_go (B := T67.setTop (mkF m 213 #[.val (.int p0), .val (.ref b56'), .val (.int (3 : Int32)), .val (.ref (A 3)), .val (.int (9 : Int32)), .unset] [])) (fun _ k => XS.icmpNo X67.here hx rfl (hb hby at_210) rfl (by decide) k) ?_
    refine own_go (B := T67.setTop (mkF m 215 #[.val (.int p0), .val (.ref b56'), .val (.int (3 : Int32)), .val (.ref (A 3)), .val (.int (9 : Int32)), .unset] [(.int (9 : Int32))])) (fun _ k => XS.iload X67.here hx rfl (hb hby at_213) rfl k) ?_
    refine own_go (B := T67.setTop (mkF m 216 #[.val (.int p0), .val (.ref b56'), .val (.int (3 : Int32)), .val (.ref (A 3)), .val (.int (9 : Int32)), .unset] [(.int (5 : Int32)), (.int (9 : Int32))])) (fun _ k => XT.iconstV X67.here hx rfl (5 : Int32) (hb hby at_215) rfl k) ?_
    refine own_go (B := T67.setTop (mkF m 223 #[.val (.int p0), .val (.ref b56'), .val (.int (3 : Int32)), .val (.ref (A 3)), .val (.int (9 : Int32)), .unset] [])) (fun _ k => XS.icmpYes X67.here hx rfl (pc0 := 216) (pc' := 223) rfl (hb hby at_216) rfl (by decide) (by decide) (by decide) k) ?_
    refine own_go (B := T67.setTop (mkF m 224 #[.val (.int p0), .val (.ref b56'), .val (.int (3 : Int32)), .val (.ref (A 3)), .val (.int (9 : Int32)), .unset] [(.int (0 : Int32))])) (fun _ k => XT.iconstV X67.here hx rfl (0 : Int32) (hb hby at_223) rfl k) ?_
    refine own_go (B := T67.setTop (mkF m 226 #[.val (.int p0), .val (.ref b56'), .val (.int (3 : Int32)), .val (.ref (A 3)), .val (.int (9 : Int32)), .val (.int (0 : Int32))] [])) (fun _ k => XS.istore X67.here hx rfl (hb hby at_224) rfl (l' := #[.val (.int p0), .val (.ref b56'), .val (.int (3 : Int32)), .val (.ref (A 3)), .val (.int (9 : Int32)), .val (.int (0 : Int32))]) rfl k) ?_
    refine own_go (B := T67.setTop (mkF m 227 #[.val (.int p0), .val (.ref b56'), .val (.int (3 : Int32)), .val (.ref (A 3)), .val (.int (9 : Int32)), .val (.int (0 : Int32))] [(.ref (A 3))])) (fun _ k => XS.aloadN X67.here hx rfl (hb hby at_226) rfl rfl k) ?_
    obtain ⟨cq68, kq68, q68a, q68b, q68c⟩ := isOf hZ e67 (E_ADD.ext x56')
    obtain ⟨_, _, ⟨T68, L68, k68, n68⟩, -, X68, ⟨Lc68, hQ68, l68, y68, z68⟩, st68⟩ := X67.virtualBack hx (y := (⟨"com/example/kilnbyte/kilnbyte/tree/Operator", "isBitwise", "()Z"⟩ : MethodName)) (z := (⟨"com/example/kilnbyte/kilnbyte/tree/Operator", "isBitwise", "()Z"⟩ : MethodName)) hown (mvT hZ (hw _ (List.mem_of_getElem? (i := 66) rfl))) (mvT hZ (hw _ (List.mem_of_getElem? (i := 67) rfl))) (notFace_of_selects (args := #[]) (mvT hZ (hw _ (List.mem_of_getElem? (i := 69) rfl)))) (mvT hZ (hw _ (List.mem_of_getElem? (i := 69) rfl))) (mvT hZ (hw _ (List.mem_of_getElem? (i := 68) rfl))) (by decide) (own_back (W := 0) (rm2_3 l Z a0 hw []  A hW h56' x56' ) hZ (hw _ (List.mem_of_getElem? (i := 70) rfl)) (hw _ (List.mem_of_getElem? (i := 3) rfl)) (by decide) (by decide)) q68a q68c (g := (mkF m 227 #[.val (.int p0), .val (.ref b56'), .val (.int (3 : Int32)), .val (.ref (A 3)), .val (.int (9 : Int32)), .val (.int (0 : Int32))] [(.ref (A 3))])) rfl (by rw [hml]; rfl) (Steps.refl _) (argsL := []) (rest := []) (lenOf pd_1 rfl) rfl (by show 2 * 0 + _ ≤ _; exact Nat.le_of_eq rfl) (hb hby at_227) (fun _ _ => ⟨rfl, e67, (by decide : 1 + 0 ≤ _), (by decide : 27 + 0 ≤ _)⟩)
    dsimp only [Pt.U, Pt.locs, Pt.cells, Pt.slots] at X68 l68 y68 z68 st68 hQ68
    subst l68 y68 z68
    obtain ⟨rfl, N68q, e68⟩ := hQ68
    have N68 := Fr.app N67 N68q
    refine own_go (B := T68.setTop (mkF m 230 #[.val (.int p0), .val (.ref b56'), .val (.int (3 : Int32)), .val (.ref (A 3)), .val (.int (9 : Int32)), .val (.int (0 : Int32))] [(.int (0 : Int32))])) (fun _ k => st68.trans k) ?_
    refine own_go (B := T68.setTop (mkF m 232 #[.val (.int p0), .val (.ref b56'), .val (.int (3 : Int32)), .val (.ref (A 3)), .val (.int (9 : Int32)), .val (.int (0 : Int32))] [(.int (0 : Int32)), (.int (0 : Int32))])) (fun _ k => XS.iload X68.here hx rfl (hb hby at_230) rfl k) ?_
    refine own_go (B := T68.setTop (mkF m 235 #[.val (.int p0), .val (.ref b56'), .val (.int (3 : Int32)), .val (.ref (A 3)), .val (.int (9 : Int32)), .val (.int (0 : Int32))] [])) (fun _ k => XS.icmpNo X68.here hx rfl (hb hby at_232) rfl (by decide) k) ?_
    refine own_go (B := T68.setTop (mkF m 236 #[.val (.int p0), .val (.ref b56'), .val (.int (3 : Int32)), .val (.ref (A 3)), .val (.int (9 : Int32)), .val (.int (0 : Int32))] [(.int (1 : Int32))])) (fun _ k => XT.iconstV X68.here hx rfl (1 : Int32) (hb hby at_235) rfl k) ?_
    refine own_go (B := T68.setTop (mkF m 240 #[.val (.int p0), .val (.ref b56'), .val (.int (3 : Int32)), .val (.ref (A 3)), .val (.int (9 : Int32)), .val (.int (0 : Int32))] [(.int (1 : Int32))])) (fun _ k => XS.goto X68.here hx rfl (pc0 := 236) (pc' := 240) rfl (hb hby at_236) (by decide) (by decide) k) ?_
    exact own_ret X68 hx (t := .boolean) hrt rfl (Or.inl ⟨rfl, by simp, _, rfl⟩) (hb hby at_240) hlk ⟨rfl, N68⟩ (by decide) (by decide)
  · refine own_go (B := T56'.setTop (mkF m 198 #[.val (.int p0), .val (.ref b56'), .val (.int (4 : Int32)), .unset, .unset, .unset] [(.ref b56')])) (fun _ k => XS.aloadN X56'.here hx rfl (hb hby at_197) rfl rfl k) ?_
    refine own_go (B := T56'.setTop (mkF m 199 #[.val (.int p0), .val (.ref b56'), .val (.int (4 : Int32)), .unset, .unset, .unset] [(.int (4 : Int32)), (.ref b56')])) (fun _ k => XS.iloadN X56'.here hx rfl (hb hby at_198) rfl k) ?_
    obtain ⟨cl69, Ar69, q69a, q69b, q69c, q69d, q69e⟩ := id V56'
    have i69 := inb_of (j := (4 : Int32)) q69b ⟨by decide, by decide⟩
    refine own_go (B := T56'.setTop (mkF m 200 #[.val (.int p0), .val (.ref b56'), .val (.int (4 : Int32)), .unset, .unset, .unset] [(.ref (A 4))])) (fun _ k => X56'.aaload hx (j := (4 : Int32)) (v := (.ref (A 4))) (by rw [e56']; exact Ar69.1) (State.isArrayOf_alike hZ.alike Ar69.2.1) rfl Ar69.2.2 i69 (Has.at q69d i69 rfl) (g := (mkF m 199 #[.val (.int p0), .val (.ref b56'), .val (.int (4 : Int32)), .unset, .unset, .unset] [(.int (4 : Int32)), (.ref b56')])) rfl rfl (hb hby at_199) _ k) ?_
    refine own_go (B := T56'.setTop (mkF m 201 #[.val (.int p0), .val (.ref b56'), .val (.int (4 : Int32)), .val (.ref (A 4)), .unset, .unset] [])) (fun _ k => XS.astoreN X56'.here hx rfl (hb hby at_200) rfl rfl (l' := #[.val (.int p0), .val (.ref b56'), .val (.int (4 : Int32)), .val (.ref (A 4)), .unset, .unset]) rfl k) ?_
    refine own_go (B := T56'.setTop (mkF m 202 #[.val (.int p0), .val (.ref b56'), .val (.int (4 : Int32)), .val (.ref (A 4)), .unset, .unset] [(.ref (A 4))])) (fun _ k => XS.aloadN X56'.here hx rfl (hb hby at_201) rfl rfl k) ?_
    obtain ⟨cq70, kq70, q70a, q70b, q70c⟩ := isOf hZ e56' (E_SUBTRACT.ext x56')
    obtain ⟨_, _, ⟨T70, L70, k70, n70⟩, -, X70, ⟨Lc70, hQ70, l70, y70, z70⟩, st70⟩ := X56'.virtualBack hx (y := (⟨"com/example/kilnbyte/kilnbyte/tree/Operator", "precedence", "()I"⟩ : MethodName)) (z := (⟨"com/example/kilnbyte/kilnbyte/tree/Operator", "precedence", "()I"⟩ : MethodName)) hown (mvT hZ (hw _ (List.mem_of_getElem? (i := 59) rfl))) (mvT hZ (hw _ (List.mem_of_getElem? (i := 60) rfl))) (notFace_of_selects (args := #[]) (mvT hZ (hw _ (List.mem_of_getElem? (i := 62) rfl)))) (mvT hZ (hw _ (List.mem_of_getElem? (i := 62) rfl))) (mvT hZ (hw _ (List.mem_of_getElem? (i := 61) rfl))) (by decide) (own_back (W := 0) (rm1_4 l Z a0 hw []  A hW h56' x56' ) hZ (hw _ (List.mem_of_getElem? (i := 63) rfl)) (hw _ (List.mem_of_getElem? (i := 3) rfl)) (by decide) (by decide)) q70a q70c (g := (mkF m 202 #[.val (.int p0), .val (.ref b56'), .val (.int (4 : Int32)), .val (.ref (A 4)), .unset, .unset] [(.ref (A 4))])) rfl (by rw [hml]; rfl) (Steps.refl _) (argsL := []) (rest := []) (lenOf pd_0 rfl) rfl (by show 2 * 0 + _ ≤ _; exact Nat.le_of_eq rfl) (hb hby at_202) (fun _ _ => ⟨rfl, e56', (by decide : 1 + 0 ≤ _), (by decide : 27 + 0 ≤ _)⟩)
    dsimp only [Pt.U, Pt.locs, Pt.cells, Pt.slots] at X70 l70 y70 z70 st70 hQ70
    subst l70 y70 z70
    obtain ⟨rfl, N70q, e70⟩ := hQ70
    have N70 := Fr.app N56' N70q
    refine own_go (B := T70.setTop (mkF m 205 #[.val (.int p0), .val (.ref b56'), .val (.int (4 : Int32)), .val (.ref (A 4)), .unset, .unset] [(.int (9 : Int32))])) (fun _ k => st70.trans k) ?_
    refine own_go (B := T70.setTop (mkF m 207 #[.val (.int p0), .val (.ref b56'), .val (.int (4 : Int32)), .val (.ref (A 4)), .val (.int (9 : Int32)), .unset] [])) (fun _ k => XS.istore X70.here hx rfl (hb hby at_205) rfl (l' := #[.val (.int p0), .val (.ref b56'), .val (.int (4 : Int32)), .val (.ref (A 4)), .val (.int (9 : Int32)), .unset]) rfl k) ?_
    refine own_go (B := T70.setTop (mkF m 209 #[.val (.int p0), .val (.ref b56'), .val (.int (4 : Int32)), .val (.ref (A 4)), .val (.int (9 : Int32)), .unset] [(.int (9 : Int32))])) (fun _ k => XS.iload X70.here hx rfl (hb hby at_207) rfl k) ?_
    refine own_go (B := T70.setTop (mkF m 210 #[.val (.int p0), .val (.ref b56'), .val (.int (4 : Int32)), .val (.ref (A 4)), .val (.int (9 : Int32)), .unset] [(.int (3 : Int32)), (.int (9 : Int32))])) (fun _ k => XT.iconstV X70.here hx rfl (3 : Int32) (hb hby at_209) rfl k) ?_
    refine own_go (B := T70.setTop (mkF m 213 #[.val (.int p0), .val (.ref b56'), .val (.int (4 : Int32)), .val (.ref (A 4)), .val (.int (9 : Int32)), .unset] [])) (fun _ k => XS.icmpNo X70.here hx rfl (hb hby at_210) rfl (by decide) k) ?_
    refine own_go (B := T70.setTop (mkF m 215 #[.val (.int p0), .val (.ref b56'), .val (.int (4 : Int32)), .val (.ref (A 4)), .val (.int (9 : Int32)), .unset] [(.int (9 : Int32))])) (fun _ k => XS.iload X70.here hx rfl (hb hby at_213) rfl k) ?_
    refine own_go (B := T70.setTop (mkF m 216 #[.val (.int p0), .val (.ref b56'), .val (.int (4 : Int32)), .val (.ref (A 4)), .val (.int (9 : Int32)), .unset] [(.int (5 : Int32)), (.int (9 : Int32))])) (fun _ k => XT.iconstV X70.here hx rfl (5 : Int32) (hb hby at_215) rfl k) ?_
    refine own_go (B := T70.setTop (mkF m 223 #[.val (.int p0), .val (.ref b56'), .val (.int (4 : Int32)), .val (.ref (A 4)), .val (.int (9 : Int32)), .unset] [])) (fun _ k => XS.icmpYes X70.here hx rfl (pc0 := 216) (pc' := 223) rfl (hb hby at_216) rfl (by decide) (by decide) (by decide) k) ?_
    refine own_go (B := T70.setTop (mkF m 224 #[.val (.int p0), .val (.ref b56'), .val (.int (4 : Int32)), .val (.ref (A 4)), .val (.int (9 : Int32)), .unset] [(.int (0 : Int32))])) (fun _ k => XT.iconstV X70.here hx rfl (0 : Int32) (hb hby at_223) rfl k) ?_
    refine own_go (B := T70.setTop (mkF m 226 #[.val (.int p0), .val (.ref b56'), .val (.int (4 : Int32)), .val (.ref (A 4)), .val (.int (9 : Int32)), .val (.int (0 : Int32))] [])) (fun _ k => XS.istore X70.here hx rfl (hb hby at_224) rfl (l' := #[.val (.int p0), .val (.ref b56'), .val (.int (4 : Int32)), .val (.ref (A 4)), .val (.int (9 : Int32)), .val (.int (0 : Int32))]) rfl k) ?_
    refine own_go (B := T70.setTop (mkF m 227 #[.val (.int p0), .val (.ref b56'), .val (.int (4 : Int32)), .val (.ref (A 4)), .val (.int (9 : Int32)), .val (.int (0 : Int32))] [(.ref (A 4))])) (fun _ k => XS.aloadN X70.here hx rfl (hb hby at_226) rfl rfl k) ?_
    obtain ⟨cq71, kq71, q71a, q71b, q71c⟩ := isOf hZ e70 (E_SUBTRACT.ext x56')
    obtain ⟨_, _, ⟨T71, L71, k71, n71⟩, -, X71, ⟨Lc71, hQ71, l71, y71, z71⟩, st71⟩ := X70.virtualBack hx (y := (⟨"com/example/kilnbyte/kilnbyte/tree/Operator", "isBitwise", "()Z"⟩ : MethodName)) (z := (⟨"com/example/kilnbyte/kilnbyte/tree/Operator", "isBitwise", "()Z"⟩ : MethodName)) hown (mvT hZ (hw _ (List.mem_of_getElem? (i := 66) rfl))) (mvT hZ (hw _ (List.mem_of_getElem? (i := 67) rfl))) (notFace_of_selects (args := #[]) (mvT hZ (hw _ (List.mem_of_getElem? (i := 69) rfl)))) (mvT hZ (hw _ (List.mem_of_getElem? (i := 69) rfl))) (mvT hZ (hw _ (List.mem_of_getElem? (i := 68) rfl))) (by decide) (own_back (W := 0) (rm2_4 l Z a0 hw []  A hW h56' x56' ) hZ (hw _ (List.mem_of_getElem? (i := 70) rfl)) (hw _ (List.mem_of_getElem? (i := 3) rfl)) (by decide) (by decide)) q71a q71c (g := (mkF m 227 #[.val (.int p0), .val (.ref b56'), .val (.int (4 : Int32)), .val (.ref (A 4)), .val (.int (9 : Int32)), .val (.int (0 : Int32))] [(.ref (A 4))])) rfl (by rw [hml]; rfl) (Steps.refl _) (argsL := []) (rest := []) (lenOf pd_1 rfl) rfl (by show 2 * 0 + _ ≤ _; exact Nat.le_of_eq rfl) (hb hby at_227) (fun _ _ => ⟨rfl, e70, (by decide : 1 + 0 ≤ _), (by decide : 27 + 0 ≤ _)⟩)
    dsimp only [Pt.U, Pt.locs, Pt.cells, Pt.slots] at X71 l71 y71 z71 st71 hQ71
    subst l71 y71 z71
    obtain ⟨rfl, N71q, e71⟩ := hQ71
    have N71 := Fr.app N70 N71q
    refine own_go (B := T71.setTop (mkF m 230 #[.val (.int p0), .val (.ref b56'), .val (.int (4 : Int32)), .val (.ref (A 4)), .val (.int (9 : Int32)), .val (.int (0 : Int32))] [(.int (0 : Int32))])) (fun _ k => st71.trans k) ?_
    refine own_go (B := T71.setTop (mkF m 232 #[.val (.int p0), .val (.ref b56'), .val (.int (4 : Int32)), .val (.ref (A 4)), .val (.int (9 : Int32)), .val (.int (0 : Int32))] [(.int (0 : Int32)), (.int (0 : Int32))])) (fun _ k => XS.iload X71.here hx rfl (hb hby at_230) rfl k) ?_
    refine own_go (B := T71.setTop (mkF m 235 #[.val (.int p0), .val (.ref b56'), .val (.int (4 : Int32)), .val (.ref (A 4)), .val (.int (9 : Int32)), .val (.int (0 : Int32))] [])) (fun _ k => XS.icmpNo X71.here hx rfl (hb hby at_232) rfl (by decide) k) ?_
    refine own_go (B := T71.setTop (mkF m 236 #[.val (.int p0), .val (.ref b56'), .val (.int (4 : Int32)), .val (.ref (A 4)), .val (.int (9 : Int32)), .val (.int (0 : Int32))] [(.int (1 : Int32))])) (fun _ k => XT.iconstV X71.here hx rfl (1 : Int32) (hb hby at_235) rfl k) ?_
    refine own_go (B := T71.setTop (mkF m 240 #[.val (.int p0), .val (.ref b56'), .val (.int (4 : Int32)), .val (.ref (A 4)), .val (.int (9 : Int32)), .val (.int (0 : Int32))] [(.int (1 : Int32))])) (fun _ k => XS.goto X71.here hx rfl (pc0 := 236) (pc' := 240) rfl (hb hby at_236) (by decide) (by decide) k) ?_
    exact own_ret X71 hx (t := .boolean) hrt rfl (Or.inl ⟨rfl, by simp, _, rfl⟩) (hb hby at_240) hlk ⟨rfl, N71⟩ (by decide) (by decide)
  · refine own_go (B := T56'.setTop (mkF m 198 #[.val (.int p0), .val (.ref b56'), .val (.int (5 : Int32)), .unset, .unset, .unset] [(.ref b56')])) (fun _ k => XS.aloadN X56'.here hx rfl (hb hby at_197) rfl rfl k) ?_
    refine own_go (B := T56'.setTop (mkF m 199 #[.val (.int p0), .val (.ref b56'), .val (.int (5 : Int32)), .unset, .unset, .unset] [(.int (5 : Int32)), (.ref b56')])) (fun _ k => XS.iloadN X56'.here hx rfl (hb hby at_198) rfl k) ?_
    obtain ⟨cl72, Ar72, q72a, q72b, q72c, q72d, q72e⟩ := id V56'
    have i72 := inb_of (j := (5 : Int32)) q72b ⟨by decide, by decide⟩
    refine own_go (B := T56'.setTop (mkF m 200 #[.val (.int p0), .val (.ref b56'), .val (.int (5 : Int32)), .unset, .unset, .unset] [(.ref (A 5))])) (fun _ k => X56'.aaload hx (j := (5 : Int32)) (v := (.ref (A 5))) (by rw [e56']; exact Ar72.1) (State.isArrayOf_alike hZ.alike Ar72.2.1) rfl Ar72.2.2 i72 (Has.at q72d i72 rfl) (g := (mkF m 199 #[.val (.int p0), .val (.ref b56'), .val (.int (5 : Int32)), .unset, .unset, .unset] [(.int (5 : Int32)), (.ref b56')])) rfl rfl (hb hby at_199) _ k) ?_
    refine own_go (B := T56'.setTop (mkF m 201 #[.val (.int p0), .val (.ref b56'), .val (.int (5 : Int32)), .val (.ref (A 5)), .unset, .unset] [])) (fun _ k => XS.astoreN X56'.here hx rfl (hb hby at_200) rfl rfl (l' := #[.val (.int p0), .val (.ref b56'), .val (.int (5 : Int32)), .val (.ref (A 5)), .unset, .unset]) rfl k) ?_
    refine own_go (B := T56'.setTop (mkF m 202 #[.val (.int p0), .val (.ref b56'), .val (.int (5 : Int32)), .val (.ref (A 5)), .unset, .unset] [(.ref (A 5))])) (fun _ k => XS.aloadN X56'.here hx rfl (hb hby at_201) rfl rfl k) ?_
    obtain ⟨cq73, kq73, q73a, q73b, q73c⟩ := isOf hZ e56' (E_SHIFT_LEFT.ext x56')
    obtain ⟨_, _, ⟨T73, L73, k73, n73⟩, -, X73, ⟨Lc73, hQ73, l73, y73, z73⟩, st73⟩ := X56'.virtualBack hx (y := (⟨"com/example/kilnbyte/kilnbyte/tree/Operator", "precedence", "()I"⟩ : MethodName)) (z := (⟨"com/example/kilnbyte/kilnbyte/tree/Operator", "precedence", "()I"⟩ : MethodName)) hown (mvT hZ (hw _ (List.mem_of_getElem? (i := 59) rfl))) (mvT hZ (hw _ (List.mem_of_getElem? (i := 60) rfl))) (notFace_of_selects (args := #[]) (mvT hZ (hw _ (List.mem_of_getElem? (i := 62) rfl)))) (mvT hZ (hw _ (List.mem_of_getElem? (i := 62) rfl))) (mvT hZ (hw _ (List.mem_of_getElem? (i := 61) rfl))) (by decide) (own_back (W := 0) (rm1_5 l Z a0 hw []  A hW h56' x56' ) hZ (hw _ (List.mem_of_getElem? (i := 63) rfl)) (hw _ (List.mem_of_getElem? (i := 3) rfl)) (by decide) (by decide)) q73a q73c (g := (mkF m 202 #[.val (.int p0), .val (.ref b56'), .val (.int (5 : Int32)), .val (.ref (A 5)), .unset, .unset] [(.ref (A 5))])) rfl (by rw [hml]; rfl) (Steps.refl _) (argsL := []) (rest := []) (lenOf pd_0 rfl) rfl (by show 2 * 0 + _ ≤ _; exact Nat.le_of_eq rfl) (hb hby at_202) (fun _ _ => ⟨rfl, e56', (by decide : 1 + 0 ≤ _), (by decide : 27 + 0 ≤ _)⟩)
    dsimp only [Pt.U, Pt.locs, Pt.cells, Pt.slots] at X73 l73 y73 z73 st73 hQ73
    subst l73 y73 z73
    obtain ⟨rfl, N73q, e73⟩ := hQ73
    have N73 := Fr.app N56' N73q
    refine own_go (B := T73.setTop (mkF m 205 #[.val (.int p0), .val (.ref b56'), .val (.int (5 : Int32)), .val (.ref (A 5)), .unset, .unset] [(.int (8 : Int32))])) (fun _ k => st73.trans k) ?_
    refine own_go (B := T73.setTop (mkF m 207 #[.val (.int p0), .val (.ref b56'), .val (.int (5 : Int32)), .val (.ref (A 5)), .val (.int (8 : Int32)), .unset] [])) (fun _ k => XS.istore X73.here hx rfl (hb hby at_205) rfl (l' := #[.val (.int p0), .val (.ref b56'), .val (.int (5 : Int32)), .val (.ref (A 5)), .val (.int (8 : Int32)), .unset]) rfl k) ?_
    refine own_go (B := T73.setTop (mkF m 209 #[.val (.int p0), .val (.ref b56'), .val (.int (5 : Int32)), .val (.ref (A 5)), .val (.int (8 : Int32)), .unset] [(.int (8 : Int32))])) (fun _ k => XS.iload X73.here hx rfl (hb hby at_207) rfl k) ?_
    refine own_go (B := T73.setTop (mkF m 210 #[.val (.int p0), .val (.ref b56'), .val (.int (5 : Int32)), .val (.ref (A 5)), .val (.int (8 : Int32)), .unset] [(.int (3 : Int32)), (.int (8 : Int32))])) (fun _ k => XT.iconstV X73.here hx rfl (3 : Int32) (hb hby at_209) rfl k) ?_
    refine own_go (B := T73.setTop (mkF m 213 #[.val (.int p0), .val (.ref b56'), .val (.int (5 : Int32)), .val (.ref (A 5)), .val (.int (8 : Int32)), .unset] [])) (fun _ k => XS.icmpNo X73.here hx rfl (hb hby at_210) rfl (by decide) k) ?_
    refine own_go (B := T73.setTop (mkF m 215 #[.val (.int p0), .val (.ref b56'), .val (.int (5 : Int32)), .val (.ref (A 5)), .val (.int (8 : Int32)), .unset] [(.int (8 : Int32))])) (fun _ k => XS.iload X73.here hx rfl (hb hby at_213) rfl k) ?_
    refine own_go (B := T73.setTop (mkF m 216 #[.val (.int p0), .val (.ref b56'), .val (.int (5 : Int32)), .val (.ref (A 5)), .val (.int (8 : Int32)), .unset] [(.int (5 : Int32)), (.int (8 : Int32))])) (fun _ k => XT.iconstV X73.here hx rfl (5 : Int32) (hb hby at_215) rfl k) ?_
    refine own_go (B := T73.setTop (mkF m 223 #[.val (.int p0), .val (.ref b56'), .val (.int (5 : Int32)), .val (.ref (A 5)), .val (.int (8 : Int32)), .unset] [])) (fun _ k => XS.icmpYes X73.here hx rfl (pc0 := 216) (pc' := 223) rfl (hb hby at_216) rfl (by decide) (by decide) (by decide) k) ?_
    refine own_go (B := T73.setTop (mkF m 224 #[.val (.int p0), .val (.ref b56'), .val (.int (5 : Int32)), .val (.ref (A 5)), .val (.int (8 : Int32)), .unset] [(.int (0 : Int32))])) (fun _ k => XT.iconstV X73.here hx rfl (0 : Int32) (hb hby at_223) rfl k) ?_
    refine own_go (B := T73.setTop (mkF m 226 #[.val (.int p0), .val (.ref b56'), .val (.int (5 : Int32)), .val (.ref (A 5)), .val (.int (8 : Int32)), .val (.int (0 : Int32))] [])) (fun _ k => XS.istore X73.here hx rfl (hb hby at_224) rfl (l' := #[.val (.int p0), .val (.ref b56'), .val (.int (5 : Int32)), .val (.ref (A 5)), .val (.int (8 : Int32)), .val (.int (0 : Int32))]) rfl k) ?_
    refine own_go (B := T73.setTop (mkF m 227 #[.val (.int p0), .val (.ref b56'), .val (.int (5 : Int32)), .val (.ref (A 5)), .val (.int (8 : Int32)), .val (.int (0 : Int32))] [(.ref (A 5))])) (fun _ k => XS.aloadN X73.here hx rfl (hb hby at_226) rfl rfl k) ?_
    obtain ⟨cq74, kq74, q74a, q74b, q74c⟩ := isOf hZ e73 (E_SHIFT_LEFT.ext x56')
    obtain ⟨_, _, ⟨T74, L74, k74, n74⟩, -, X74, ⟨Lc74, hQ74, l74, y74, z74⟩, st74⟩ := X73.virtualBack hx (y := (⟨"com/example/kilnbyte/kilnbyte/tree/Operator", "isBitwise", "()Z"⟩ : MethodName)) (z := (⟨"com/example/kilnbyte/kilnbyte/tree/Operator", "isBitwise", "()Z"⟩ : MethodName)) hown (mvT hZ (hw _ (List.mem_of_getElem? (i := 66) rfl))) (mvT hZ (hw _ (List.mem_of_getElem? (i := 67) rfl))) (notFace_of_selects (args := #[]) (mvT hZ (hw _ (List.mem_of_getElem? (i := 69) rfl)))) (mvT hZ (hw _ (List.mem_of_getElem? (i := 69) rfl))) (mvT hZ (hw _ (List.mem_of_getElem? (i := 68) rfl))) (by decide) (own_back (W := 0) (rm2_5 l Z a0 hw []  A hW h56' x56' ) hZ (hw _ (List.mem_of_getElem? (i := 70) rfl)) (hw _ (List.mem_of_getElem? (i := 3) rfl)) (by decide) (by decide)) q74a q74c (g := (mkF m 227 #[.val (.int p0), .val (.ref b56'), .val (.int (5 : Int32)), .val (.ref (A 5)), .val (.int (8 : Int32)), .val (.int (0 : Int32))] [(.ref (A 5))])) rfl (by rw [hml]; rfl) (Steps.refl _) (argsL := []) (rest := []) (lenOf pd_1 rfl) rfl (by show 2 * 0 + _ ≤ _; exact Nat.le_of_eq rfl) (hb hby at_227) (fun _ _ => ⟨rfl, e73, (by decide : 1 + 0 ≤ _), (by decide : 27 + 0 ≤ _)⟩)
    dsimp only [Pt.U, Pt.locs, Pt.cells, Pt.slots] at X74 l74 y74 z74 st74 hQ74
    subst l74 y74 z74
    obtain ⟨rfl, N74q, e74⟩ := hQ74
    have N74 := Fr.app N73 N74q
    refine own_go (B := T74.setTop (mkF m 230 #[.val (.int p0), .val (.ref b56'), .val (.int (5 : Int32)), .val (.ref (A 5)), .val (.int (8 : Int32)), .val (.int (0 : Int32))] [(.int (0 : Int32))])) (fun _ k => st74.trans k) ?_
    refine own_go (B := T74.setTop (mkF m 232 #[.val (.int p0), .val (.ref b56'), .val (.int (5 : Int32)), .val (.ref (A 5)), .val (.int (8 : Int32)), .val (.int (0 : Int32))] [(.int (0 : Int32)), (.int (0 : Int32))])) (fun _ k => XS.iload X74.here hx rfl (hb hby at_230) rfl k) ?_
    refine own_go (B := T74.setTop (mkF m 235 #[.val (.int p0), .val (.ref b56'), .val (.int (5 : Int32)), .val (.ref (A 5)), .val (.int (8 : Int32)), .val (.int (0 : Int32))] [])) (fun _ k => XS.icmpNo X74.here hx rfl (hb hby at_232) rfl (by decide) k) ?_
    refine own_go (B := T74.setTop (mkF m 236 #[.val (.int p0), .val (.ref b56'), .val (.int (5 : Int32)), .val (.ref (A 5)), .val (.int (8 : Int32)), .val (.int (0 : Int32))] [(.int (1 : Int32))])) (fun _ k => XT.iconstV X74.here hx rfl (1 : Int32) (hb hby at_235) rfl k) ?_
    refine own_go (B := T74.setTop (mkF m 240 #[.val (.int p0), .val (.ref b56'), .val (.int (5 : Int32)), .val (.ref (A 5)), .val (.int (8 : Int32)), .val (.int (0 : Int32))] [(.int (1 : Int32))])) (fun _ k => XS.goto X74.here hx rfl (pc0 := 236) (pc' := 240) rfl (hb hby at_236) (by decide) (by decide) k) ?_
    exact own_ret X74 hx (t := .boolean) hrt rfl (Or.inl ⟨rfl, by simp, _, rfl⟩) (hb hby at_240) hlk ⟨rfl, N74⟩ (by decide) (by decide)
  · refine own_go (B := T56'.setTop (mkF m 198 #[.val (.int p0), .val (.ref b56'), .val (.int (6 : Int32)), .unset, .unset, .unset] [(.ref b56')])) (fun _ k => XS.aloadN X56'.here hx rfl (hb hby at_197) rfl rfl k) ?_
    refine own_go (B := T56'.setTop (mkF m 199 #[.val (.int p0), .val (.ref b56'), .val (.int (6 : Int32)), .unset, .unset, .unset] [(.int (6 : Int32)), (.ref b56')])) (fun _ k => XS.iloadN X56'.here hx rfl (hb hby at_198) rfl k) ?_
    obtain ⟨cl75, Ar75, q75a, q75b, q75c, q75d, q75e⟩ := id V56'
    have i75 := inb_of (j := (6 : Int32)) q75b ⟨by decide, by decide⟩
    refine own_go (B := T56'.setTop (mkF m 200 #[.val (.int p0), .val (.ref b56'), .val (.int (6 : Int32)), .unset, .unset, .unset] [(.ref (A 6))])) (fun _ k => X56'.aaload hx (j := (6 : Int32)) (v := (.ref (A 6))) (by rw [e56']; exact Ar75.1) (State.isArrayOf_alike hZ.alike Ar75.2.1) rfl Ar75.2.2 i75 (Has.at q75d i75 rfl) (g := (mkF m 199 #[.val (.int p0), .val (.ref b56'), .val (.int (6 : Int32)), .unset, .unset, .unset] [(.int (6 : Int32)), (.ref b56')])) rfl rfl (hb hby at_199) _ k) ?_
    refine own_go (B := T56'.setTop (mkF m 201 #[.val (.int p0), .val (.ref b56'), .val (.int (6 : Int32)), .val (.ref (A 6)), .unset, .unset] [])) (fun _ k => XS.astoreN X56'.here hx rfl (hb hby at_200) rfl rfl (l' := #[.val (.int p0), .val (.ref b56'), .val (.int (6 : Int32)), .val (.ref (A 6)), .unset, .unset]) rfl k) ?_
    refine own_go (B := T56'.setTop (mkF m 202 #[.val (.int p0), .val (.ref b56'), .val (.int (6 : Int32)), .val (.ref (A 6)), .unset, .unset] [(.ref (A 6))])) (fun _ k => XS.aloadN X56'.here hx rfl (hb hby at_201) rfl rfl k) ?_
    obtain ⟨cq76, kq76, q76a, q76b, q76c⟩ := isOf hZ e56' (E_SHIFT_RIGHT.ext x56')
    obtain ⟨_, _, ⟨T76, L76, k76, n76⟩, -, X76, ⟨Lc76, hQ76, l76, y76, z76⟩, st76⟩ := X56'.virtualBack hx (y := (⟨"com/example/kilnbyte/kilnbyte/tree/Operator", "precedence", "()I"⟩ : MethodName)) (z := (⟨"com/example/kilnbyte/kilnbyte/tree/Operator", "precedence", "()I"⟩ : MethodName)) hown (mvT hZ (hw _ (List.mem_of_getElem? (i := 59) rfl))) (mvT hZ (hw _ (List.mem_of_getElem? (i := 60) rfl))) (notFace_of_selects (args := #[]) (mvT hZ (hw _ (List.mem_of_getElem? (i := 62) rfl)))) (mvT hZ (hw _ (List.mem_of_getElem? (i := 62) rfl))) (mvT hZ (hw _ (List.mem_of_getElem? (i := 61) rfl))) (by decide) (own_back (W := 0) (rm1_6 l Z a0 hw []  A hW h56' x56' ) hZ (hw _ (List.mem_of_getElem? (i := 63) rfl)) (hw _ (List.mem_of_getElem? (i := 3) rfl)) (by decide) (by decide)) q76a q76c (g := (mkF m 202 #[.val (.int p0), .val (.ref b56'), .val (.int (6 : Int32)), .val (.ref (A 6)), .unset, .unset] [(.ref (A 6))])) rfl (by rw [hml]; rfl) (Steps.refl _) (argsL := []) (rest := []) (lenOf pd_0 rfl) rfl (by show 2 * 0 + _ ≤ _; exact Nat.le_of_eq rfl) (hb hby at_202) (fun _ _ => ⟨rfl, e56', (by decide : 1 + 0 ≤ _), (by decide : 27 + 0 ≤ _)⟩)
    dsimp only [Pt.U, Pt.locs, Pt.cells, Pt.slots] at X76 l76 y76 z76 st76 hQ76
    subst l76 y76 z76
    obtain ⟨rfl, N76q, e76⟩ := hQ76
    have N76 := Fr.app N56' N76q
    refine own_go (B := T76.setTop (mkF m 205 #[.val (.int p0), .val (.ref b56'), .val (.int (6 : Int32)), .val (.ref (A 6)), .unset, .unset] [(.int (8 : Int32))])) (fun _ k => st76.trans k) ?_
    refine own_go (B := T76.setTop (mkF m 207 #[.val (.int p0), .val (.ref b56'), .val (.int (6 : Int32)), .val (.ref (A 6)), .val (.int (8 : Int32)), .unset] [])) (fun _ k => XS.istore X76.here hx rfl (hb hby at_205) rfl (l' := #[.val (.int p0), .val (.ref b56'), .val (.int (6 : Int32)), .val (.ref (A 6)), .val (.int (8 : Int32)), .unset]) rfl k) ?_
    refine own_go (B := T76.setTop (mkF m 209 #[.val (.int p0), .val (.ref b56'), .val (.int (6 : Int32)), .val (.ref (A 6)), .val (.int (8 : Int32)), .unset] [(.int (8 : Int32))])) (fun _ k => XS.iload X76.here hx rfl (hb hby at_207) rfl k) ?_
    refine own_go (B := T76.setTop (mkF m 210 #[.val (.int p0), .val (.ref b56'), .val (.int (6 : Int32)), .val (.ref (A 6)), .val (.int (8 : Int32)), .unset] [(.int (3 : Int32)), (.int (8 : Int32))])) (fun _ k => XT.iconstV X76.here hx rfl (3 : Int32) (hb hby at_209) rfl k) ?_
    refine own_go (B := T76.setTop (mkF m 213 #[.val (.int p0), .val (.ref b56'), .val (.int (6 : Int32)), .val (.ref (A 6)), .val (.int (8 : Int32)), .unset] [])) (fun _ k => XS.icmpNo X76.here hx rfl (hb hby at_210) rfl (by decide) k) ?_
    refine own_go (B := T76.setTop (mkF m 215 #[.val (.int p0), .val (.ref b56'), .val (.int (6 : Int32)), .val (.ref (A 6)), .val (.int (8 : Int32)), .unset] [(.int (8 : Int32))])) (fun _ k => XS.iload X76.here hx rfl (hb hby at_213) rfl k) ?_
    refine own_go (B := T76.setTop (mkF m 216 #[.val (.int p0), .val (.ref b56'), .val (.int (6 : Int32)), .val (.ref (A 6)), .val (.int (8 : Int32)), .unset] [(.int (5 : Int32)), (.int (8 : Int32))])) (fun _ k => XT.iconstV X76.here hx rfl (5 : Int32) (hb hby at_215) rfl k) ?_
    refine own_go (B := T76.setTop (mkF m 223 #[.val (.int p0), .val (.ref b56'), .val (.int (6 : Int32)), .val (.ref (A 6)), .val (.int (8 : Int32)), .unset] [])) (fun _ k => XS.icmpYes X76.here hx rfl (pc0 := 216) (pc' := 223) rfl (hb hby at_216) rfl (by decide) (by decide) (by decide) k) ?_
    refine own_go (B := T76.setTop (mkF m 224 #[.val (.int p0), .val (.ref b56'), .val (.int (6 : Int32)), .val (.ref (A 6)), .val (.int (8 : Int32)), .unset] [(.int (0 : Int32))])) (fun _ k => XT.iconstV X76.here hx rfl (0 : Int32) (hb hby at_223) rfl k) ?_
    refine own_go (B := T76.setTop (mkF m 226 #[.val (.int p0), .val (.ref b56'), .val (.int (6 : Int32)), .val (.ref (A 6)), .val (.int (8 : Int32)), .val (.int (0 : Int32))] [])) (fun _ k => XS.istore X76.here hx rfl (hb hby at_224) rfl (l' := #[.val (.int p0), .val (.ref b56'), .val (.int (6 : Int32)), .val (.ref (A 6)), .val (.int (8 : Int32)), .val (.int (0 : Int32))]) rfl k) ?_
    refine own_go (B := T76.setTop (mkF m 227 #[.val (.int p0), .val (.ref b56'), .val (.int (6 : Int32)), .val (.ref (A 6)), .val (.int (8 : Int32)), .val (.int (0 : Int32))] [(.ref (A 6))])) (fun _ k => XS.aloadN X76.here hx rfl (hb hby at_226) rfl rfl k) ?_
    obtain ⟨cq77, kq77, q77a, q77b, q77c⟩ := isOf hZ e76 (E_SHIFT_RIGHT.ext x56')
    obtain ⟨_, _, ⟨T77, L77, k77, n77⟩, -, X77, ⟨Lc77, hQ77, l77, y77, z77⟩, st77⟩ := X76.virtualBack hx (y := (⟨"com/example/kilnbyte/kilnbyte/tree/Operator", "isBitwise", "()Z"⟩ : MethodName)) (z := (⟨"com/example/kilnbyte/kilnbyte/tree/Operator", "isBitwise", "()Z"⟩ : MethodName)) hown (mvT hZ (hw _ (List.mem_of_getElem? (i := 66) rfl))) (mvT hZ (hw _ (List.mem_of_getElem? (i := 67) rfl))) (notFace_of_selects (args := #[]) (mvT hZ (hw _ (List.mem_of_getElem? (i := 69) rfl)))) (mvT hZ (hw _ (List.mem_of_getElem? (i := 69) rfl))) (mvT hZ (hw _ (List.mem_of_getElem? (i := 68) rfl))) (by decide) (own_back (W := 0) (rm2_6 l Z a0 hw []  A hW h56' x56' ) hZ (hw _ (List.mem_of_getElem? (i := 70) rfl)) (hw _ (List.mem_of_getElem? (i := 3) rfl)) (by decide) (by decide)) q77a q77c (g := (mkF m 227 #[.val (.int p0), .val (.ref b56'), .val (.int (6 : Int32)), .val (.ref (A 6)), .val (.int (8 : Int32)), .val (.int (0 : Int32))] [(.ref (A 6))])) rfl (by rw [hml]; rfl) (Steps.refl _) (argsL := []) (rest := []) (lenOf pd_1 rfl) rfl (by show 2 * 0 + _ ≤ _; exact Nat.le_of_eq rfl) (hb hby at_227) (fun _ _ => ⟨rfl, e76, (by decide : 1 + 0 ≤ _), (by decide : 27 + 0 ≤ _)⟩)
    dsimp only [Pt.U, Pt.locs, Pt.cells, Pt.slots] at X77 l77 y77 z77 st77 hQ77
    subst l77 y77 z77
    obtain ⟨rfl, N77q, e77⟩ := hQ77
    have N77 := Fr.app N76 N77q
    refine own_go (B := T77.setTop (mkF m 230 #[.val (.int p0), .val (.ref b56'), .val (.int (6 : Int32)), .val (.ref (A 6)), .val (.int (8 : Int32)), .val (.int (0 : Int32))] [(.int (0 : Int32))])) (fun _ k => st77.trans k) ?_
    refine own_go (B := T77.setTop (mkF m 232 #[.val (.int p0), .val (.ref b56'), .val (.int (6 : Int32)), .val (.ref (A 6)), .val (.int (8 : Int32)), .val (.int (0 : Int32))] [(.int (0 : Int32)), (.int (0 : Int32))])) (fun _ k => XS.iload X77.here hx rfl (hb hby at_230) rfl k) ?_
    refine own_go (B := T77.setTop (mkF m 235 #[.val (.int p0), .val (.ref b56'), .val (.int (6 : Int32)), .val (.ref (A 6)), .val (.int (8 : Int32)), .val (.int (0 : Int32))] [])) (fun _ k => XS.icmpNo X77.here hx rfl (hb hby at_232) rfl (by decide) k) ?_
    refine own_go (B := T77.setTop (mkF m 236 #[.val (.int p0), .val (.ref b56'), .val (.int (6 : Int32)), .val (.ref (A 6)), .val (.int (8 : Int32)), .val (.int (0 : Int32))] [(.int (1 : Int32))])) (fun _ k => XT.iconstV X77.here hx rfl (1 : Int32) (hb hby at_235) rfl k) ?_
    refine own_go (B := T77.setTop (mkF m 240 #[.val (.int p0), .val (.ref b56'), .val (.int (6 : Int32)), .val (.ref (A 6)), .val (.int (8 : Int32)), .val (.int (0 : Int32))] [(.int (1 : Int32))])) (fun _ k => XS.goto X77.here hx rfl (pc0 := 236) (pc' := 240) rfl (hb hby at_236) (by decide) (by decide) k) ?_
    exact own_ret X77 hx (t := .boolean) hrt rfl (Or.inl ⟨rfl, by simp, _, rfl⟩) (hb hby at_240) hlk ⟨rfl, N77⟩ (by decide) (by decide)
  · refine own_go (B := T56'.setTop (mkF m 198 #[.val (.int p0), .val (.ref b56'), .val (.int (7 : Int32)), .unset, .unset, .unset] [(.ref b56')])) (fun _ k => XS.aloadN X56'.here hx rfl (hb hby at_197) rfl rfl k) ?_
    refine own_go (B := T56'.setTop (mkF m 199 #[.val (.int p0), .val (.ref b56'), .val (.int (7 : Int32)), .unset, .unset, .unset] [(.int (7 : Int32)), (.ref b56')])) (fun _ k => XS.iloadN X56'.here hx rfl (hb hby at_198) rfl k) ?_
    obtain ⟨cl78, Ar78, q78a, q78b, q78c, q78d, q78e⟩ := id V56'
    have i78 := inb_of (j := (7 : Int32)) q78b ⟨by decide, by decide⟩
    refine own_go (B := T56'.setTop (mkF m 200 #[.val (.int p0), .val (.ref b56'), .val (.int (7 : Int32)), .unset, .unset, .unset] [(.ref (A 7))])) (fun _ k => X56'.aaload hx (j := (7 : Int32)) (v := (.ref (A 7))) (by rw [e56']; exact Ar78.1) (State.isArrayOf_alike hZ.alike Ar78.2.1) rfl Ar78.2.2 i78 (Has.at q78d i78 rfl) (g := (mkF m 199 #[.val (.int p0), .val (.ref b56'), .val (.int (7 : Int32)), .unset, .unset, .unset] [(.int (7 : Int32)), (.ref b56')])) rfl rfl (hb hby at_199) _ k) ?_
    refine own_go (B := T56'.setTop (mkF m 201 #[.val (.int p0), .val (.ref b56'), .val (.int (7 : Int32)), .val (.ref (A 7)), .unset, .unset] [])) (fun _ k => XS.astoreN X56'.here hx rfl (hb hby at_200) rfl rfl (l' := #[.val (.int p0), .val (.ref b56'), .val (.int (7 : Int32)), .val (.ref (A 7)), .unset, .unset]) rfl k) ?_
    refine own_go (B := T56'.setTop (mkF m 202 #[.val (.int p0), .val (.ref b56'), .val (.int (7 : Int32)), .val (.ref (A 7)), .unset, .unset] [(.ref (A 7))])) (fun _ k => XS.aloadN X56'.here hx rfl (hb hby at_201) rfl rfl k) ?_
    obtain ⟨cq79, kq79, q79a, q79b, q79c⟩ := isOf hZ e56' (E_UNSIGNED_SHIFT_RIGHT.ext x56')
    obtain ⟨_, _, ⟨T79, L79, k79, n79⟩, -, X79, ⟨Lc79, hQ79, l79, y79, z79⟩, st79⟩ := X56'.virtualBack hx (y := (⟨"com/example/kilnbyte/kilnbyte/tree/Operator", "precedence", "()I"⟩ : MethodName)) (z := (⟨"com/example/kilnbyte/kilnbyte/tree/Operator", "precedence", "()I"⟩ : MethodName)) hown (mvT hZ (hw _ (List.mem_of_getElem? (i := 59) rfl))) (mvT hZ (hw _ (List.mem_of_getElem? (i := 60) rfl))) (notFace_of_selects (args := #[]) (mvT hZ (hw _ (List.mem_of_getElem? (i := 62) rfl)))) (mvT hZ (hw _ (List.mem_of_getElem? (i := 62) rfl))) (mvT hZ (hw _ (List.mem_of_getElem? (i := 61) rfl))) (by decide) (own_back (W := 0) (rm1_7 l Z a0 hw []  A hW h56' x56' ) hZ (hw _ (List.mem_of_getElem? (i := 63) rfl)) (hw _ (List.mem_of_getElem? (i := 3) rfl)) (by decide) (by decide)) q79a q79c (g := (mkF m 202 #[.val (.int p0), .val (.ref b56'), .val (.int (7 : Int32)), .val (.ref (A 7)), .unset, .unset] [(.ref (A 7))])) rfl (by rw [hml]; rfl) (Steps.refl _) (argsL := []) (rest := []) (lenOf pd_0 rfl) rfl (by show 2 * 0 + _ ≤ _; exact Nat.le_of_eq rfl) (hb hby at_202) (fun _ _ => ⟨rfl, e56', (by decide : 1 + 0 ≤ _), (by decide : 27 + 0 ≤ _)⟩)
    dsimp only [Pt.U, Pt.locs, Pt.cells, Pt.slots] at X79 l79 y79 z79 st79 hQ79
    subst l79 y79 z79
    obtain ⟨rfl, N79q, e79⟩ := hQ79
    have N79 := Fr.app N56' N79q
    refine own_go (B := T79.setTop (mkF m 205 #[.val (.int p0), .val (.ref b56'), .val (.int (7 : Int32)), .val (.ref (A 7)), .unset, .unset] [(.int (8 : Int32))])) (fun _ k => st79.trans k) ?_
    refine own_go (B := T79.setTop (mkF m 207 #[.val (.int p0), .val (.ref b56'), .val (.int (7 : Int32)), .val (.ref (A 7)), .val (.int (8 : Int32)), .unset] [])) (fun _ k => XS.istore X79.here hx rfl (hb hby at_205) rfl (l' := #[.val (.int p0), .val (.ref b56'), .val (.int (7 : Int32)), .val (.ref (A 7)), .val (.int (8 : Int32)), .unset]) rfl k) ?_
    refine own_go (B := T79.setTop (mkF m 209 #[.val (.int p0), .val (.ref b56'), .val (.int (7 : Int32)), .val (.ref (A 7)), .val (.int (8 : Int32)), .unset] [(.int (8 : Int32))])) (fun _ k => XS.iload X79.here hx rfl (hb hby at_207) rfl k) ?_
    refine own_go (B := T79.setTop (mkF m 210 #[.val (.int p0), .val (.ref b56'), .val (.int (7 : Int32)), .val (.ref (A 7)), .val (.int (8 : Int32)), .unset] [(.int (3 : Int32)), (.int (8 : Int32))])) (fun _ k => XT.iconstV X79.here hx rfl (3 : Int32) (hb hby at_209) rfl k) ?_
    refine own_go (B := T79.setTop (mkF m 213 #[.val (.int p0), .val (.ref b56'), .val (.int (7 : Int32)), .val (.ref (A 7)), .val (.int (8 : Int32)), .unset] [])) (fun _ k => XS.icmpNo X79.here hx rfl (hb hby at_210) rfl (by decide) k) ?_
    refine own_go (B := T79.setTop (mkF m 215 #[.val (.int p0), .val (.ref b56'), .val (.int (7 : Int32)), .val (.ref (A 7)), .val (.int (8 : Int32)), .unset] [(.int (8 : Int32))])) (fun _ k => XS.iload X79.here hx rfl (hb hby at_213) rfl k) ?_
    refine own_go (B := T79.setTop (mkF m 216 #[.val (.int p0), .val (.ref b56'), .val (.int (7 : Int32)), .val (.ref (A 7)), .val (.int (8 : Int32)), .unset] [(.int (5 : Int32)), (.int (8 : Int32))])) (fun _ k => XT.iconstV X79.here hx rfl (5 : Int32) (hb hby at_215) rfl k) ?_
    refine own_go (B := T79.setTop (mkF m 223 #[.val (.int p0), .val (.ref b56'), .val (.int (7 : Int32)), .val (.ref (A 7)), .val (.int (8 : Int32)), .unset] [])) (fun _ k => XS.icmpYes X79.here hx rfl (pc0 := 216) (pc' := 223) rfl (hb hby at_216) rfl (by decide) (by decide) (by decide) k) ?_
    refine own_go (B := T79.setTop (mkF m 224 #[.val (.int p0), .val (.ref b56'), .val (.int (7 : Int32)), .val (.ref (A 7)), .val (.int (8 : Int32)), .unset] [(.int (0 : Int32))])) (fun _ k => XT.iconstV X79.here hx rfl (0 : Int32) (hb hby at_223) rfl k) ?_
    refine own_go (B := T79.setTop (mkF m 226 #[.val (.int p0), .val (.ref b56'), .val (.int (7 : Int32)), .val (.ref (A 7)), .val (.int (8 : Int32)), .val (.int (0 : Int32))] [])) (fun _ k => XS.istore X79.here hx rfl (hb hby at_224) rfl (l' := #[.val (.int p0), .val (.ref b56'), .val (.int (7 : Int32)), .val (.ref (A 7)), .val (.int (8 : Int32)), .val (.int (0 : Int32))]) rfl k) ?_
    refine own_go (B := T79.setTop (mkF m 227 #[.val (.int p0), .val (.ref b56'), .val (.int (7 : Int32)), .val (.ref (A 7)), .val (.int (8 : Int32)), .val (.int (0 : Int32))] [(.ref (A 7))])) (fun _ k => XS.aloadN X79.here hx rfl (hb hby at_226) rfl rfl k) ?_
    obtain ⟨cq80, kq80, q80a, q80b, q80c⟩ := isOf hZ e79 (E_UNSIGNED_SHIFT_RIGHT.ext x56')
    obtain ⟨_, _, ⟨T80, L80, k80, n80⟩, -, X80, ⟨Lc80, hQ80, l80, y80, z80⟩, st80⟩ := X79.virtualBack hx (y := (⟨"com/example/kilnbyte/kilnbyte/tree/Operator", "isBitwise", "()Z"⟩ : MethodName)) (z := (⟨"com/example/kilnbyte/kilnbyte/tree/Operator", "isBitwise", "()Z"⟩ : MethodName)) hown (mvT hZ (hw _ (List.mem_of_getElem? (i := 66) rfl))) (mvT hZ (hw _ (List.mem_of_getElem? (i := 67) rfl))) (notFace_of_selects (args := #[]) (mvT hZ (hw _ (List.mem_of_getElem? (i := 69) rfl)))) (mvT hZ (hw _ (List.mem_of_getElem? (i := 69) rfl))) (mvT hZ (hw _ (List.mem_of_getElem? (i := 68) rfl))) (by decide) (own_back (W := 0) (rm2_7 l Z a0 hw []  A hW h56' x56' ) hZ (hw _ (List.mem_of_getElem? (i := 70) rfl)) (hw _ (List.mem_of_getElem? (i := 3) rfl)) (by decide) (by decide)) q80a q80c (g := (mkF m 227 #[.val (.int p0), .val (.ref b56'), .val (.int (7 : Int32)), .val (.ref (A 7)), .val (.int (8 : Int32)), .val (.int (0 : Int32))] [(.ref (A 7))])) rfl (by rw [hml]; rfl) (Steps.refl _) (argsL := []) (rest := []) (lenOf pd_1 rfl) rfl (by show 2 * 0 + _ ≤ _; exact Nat.le_of_eq rfl) (hb hby at_227) (fun _ _ => ⟨rfl, e79, (by decide : 1 + 0 ≤ _), (by decide : 27 + 0 ≤ _)⟩)
    dsimp only [Pt.U, Pt.locs, Pt.cells, Pt.slots] at X80 l80 y80 z80 st80 hQ80
    subst l80 y80 z80
    obtain ⟨rfl, N80q, e80⟩ := hQ80
    have N80 := Fr.app N79 N80q
    refine own_go (B := T80.setTop (mkF m 230 #[.val (.int p0), .val (.ref b56'), .val (.int (7 : Int32)), .val (.ref (A 7)), .val (.int (8 : Int32)), .val (.int (0 : Int32))] [(.int (0 : Int32))])) (fun _ k => st80.trans k) ?_
    refine own_go (B := T80.setTop (mkF m 232 #[.val (.int p0), .val (.ref b56'), .val (.int (7 : Int32)), .val (.ref (A 7)), .val (.int (8 : Int32)), .val (.int (0 : Int32))] [(.int (0 : Int32)), (.int (0 : Int32))])) (fun _ k => XS.iload X80.here hx rfl (hb hby at_230) rfl k) ?_
    refine own_go (B := T80.setTop (mkF m 235 #[.val (.int p0), .val (.ref b56'), .val (.int (7 : Int32)), .val (.ref (A 7)), .val (.int (8 : Int32)), .val (.int (0 : Int32))] [])) (fun _ k => XS.icmpNo X80.here hx rfl (hb hby at_232) rfl (by decide) k) ?_
    refine own_go (B := T80.setTop (mkF m 236 #[.val (.int p0), .val (.ref b56'), .val (.int (7 : Int32)), .val (.ref (A 7)), .val (.int (8 : Int32)), .val (.int (0 : Int32))] [(.int (1 : Int32))])) (fun _ k => XT.iconstV X80.here hx rfl (1 : Int32) (hb hby at_235) rfl k) ?_
    refine own_go (B := T80.setTop (mkF m 240 #[.val (.int p0), .val (.ref b56'), .val (.int (7 : Int32)), .val (.ref (A 7)), .val (.int (8 : Int32)), .val (.int (0 : Int32))] [(.int (1 : Int32))])) (fun _ k => XS.goto X80.here hx rfl (pc0 := 236) (pc' := 240) rfl (hb hby at_236) (by decide) (by decide) k) ?_
    exact own_ret X80 hx (t := .boolean) hrt rfl (Or.inl ⟨rfl, by simp, _, rfl⟩) (hb hby at_240) hlk ⟨rfl, N80⟩ (by decide) (by decide)
  · refine own_go (B := T56'.setTop (mkF m 198 #[.val (.int p0), .val (.ref b56'), .val (.int (8 : Int32)), .unset, .unset, .unset] [(.ref b56')])) (fun _ k => XS.aloadN X56'.here hx rfl (hb hby at_197) rfl rfl k) ?_
    refine own_go (B := T56'.setTop (mkF m 199 #[.val (.int p0), .val (.ref b56'), .val (.int (8 : Int32)), .unset, .unset, .unset] [(.int (8 : Int32)), (.ref b56')])) (fun _ k => XS.iloadN X56'.here hx rfl (hb hby at_198) rfl k) ?_
    obtain ⟨cl81, Ar81, q81a, q81b, q81c, q81d, q81e⟩ := id V56'
    have i81 := inb_of (j := (8 : Int32)) q81b ⟨by decide, by decide⟩
    refine own_go (B := T56'.setTop (mkF m 200 #[.val (.int p0), .val (.ref b56'), .val (.int (8 : Int32)), .unset, .unset, .unset] [(.ref (A 8))])) (fun _ k => X56'.aaload hx (j := (8 : Int32)) (v := (.ref (A 8))) (by rw [e56']; exact Ar81.1) (State.isArrayOf_alike hZ.alike Ar81.2.1) rfl Ar81.2.2 i81 (Has.at q81d i81 rfl) (g := (mkF m 199 #[.val (.int p0), .val (.ref b56'), .val (.int (8 : Int32)), .unset, .unset, .unset] [(.int (8 : Int32)), (.ref b56')])) rfl rfl (hb hby at_199) _ k) ?_
    refine own_go (B := T56'.setTop (mkF m 201 #[.val (.int p0), .val (.ref b56'), .val (.int (8 : Int32)), .val (.ref (A 8)), .unset, .unset] [])) (fun _ k => XS.astoreN X56'.here hx rfl (hb hby at_200) rfl rfl (l' := #[.val (.int p0), .val (.ref b56'), .val (.int (8 : Int32)), .val (.ref (A 8)), .unset, .unset]) rfl k) ?_
    refine own_go (B := T56'.setTop (mkF m 202 #[.val (.int p0), .val (.ref b56'), .val (.int (8 : Int32)), .val (.ref (A 8)), .unset, .unset] [(.ref (A 8))])) (fun _ k => XS.aloadN X56'.here hx rfl (hb hby at_201) rfl rfl k) ?_
    obtain ⟨cq82, kq82, q82a, q82b, q82c⟩ := isOf hZ e56' (E_LESS.ext x56')
    obtain ⟨_, _, ⟨T82, L82, k82, n82⟩, -, X82, ⟨Lc82, hQ82, l82, y82, z82⟩, st82⟩ := X56'.virtualBack hx (y := (⟨"com/example/kilnbyte/kilnbyte/tree/Operator", "precedence", "()I"⟩ : MethodName)) (z := (⟨"com/example/kilnbyte/kilnbyte/tree/Operator", "precedence", "()I"⟩ : MethodName)) hown (mvT hZ (hw _ (List.mem_of_getElem? (i := 59) rfl))) (mvT hZ (hw _ (List.mem_of_getElem? (i := 60) rfl))) (notFace_of_selects (args := #[]) (mvT hZ (hw _ (List.mem_of_getElem? (i := 62) rfl)))) (mvT hZ (hw _ (List.mem_of_getElem? (i := 62) rfl))) (mvT hZ (hw _ (List.mem_of_getElem? (i := 61) rfl))) (by decide) (own_back (W := 0) (rm1_8 l Z a0 hw []  A hW h56' x56' ) hZ (hw _ (List.mem_of_getElem? (i := 63) rfl)) (hw _ (List.mem_of_getElem? (i := 3) rfl)) (by decide) (by decide)) q82a q82c (g := (mkF m 202 #[.val (.int p0), .val (.ref b56'), .val (.int (8 : Int32)), .val (.ref (A 8)), .unset, .unset] [(.ref (A 8))])) rfl (by rw [hml]; rfl) (Steps.refl _) (argsL := []) (rest := []) (lenOf pd_0 rfl) rfl (by show 2 * 0 + _ ≤ _; exact Nat.le_of_eq rfl) (hb hby at_202) (fun _ _ => ⟨rfl, e56', (by decide : 1 + 0 ≤ _), (by decide : 27 + 0 ≤ _)⟩)
    dsimp only [Pt.U, Pt.locs, Pt.cells, Pt.slots] at X82 l82 y82 z82 st82 hQ82
    subst l82 y82 z82
    obtain ⟨rfl, N82q, e82⟩ := hQ82
    have N82 := Fr.app N56' N82q
    refine own_go (B := T82.setTop (mkF m 205 #[.val (.int p0), .val (.ref b56'), .val (.int (8 : Int32)), .val (.ref (A 8)), .unset, .unset] [(.int (7 : Int32))])) (fun _ k => st82.trans k) ?_
    refine own_go (B := T82.setTop (mkF m 207 #[.val (.int p0), .val (.ref b56'), .val (.int (8 : Int32)), .val (.ref (A 8)), .val (.int (7 : Int32)), .unset] [])) (fun _ k => XS.istore X82.here hx rfl (hb hby at_205) rfl (l' := #[.val (.int p0), .val (.ref b56'), .val (.int (8 : Int32)), .val (.ref (A 8)), .val (.int (7 : Int32)), .unset]) rfl k) ?_
    refine own_go (B := T82.setTop (mkF m 209 #[.val (.int p0), .val (.ref b56'), .val (.int (8 : Int32)), .val (.ref (A 8)), .val (.int (7 : Int32)), .unset] [(.int (7 : Int32))])) (fun _ k => XS.iload X82.here hx rfl (hb hby at_207) rfl k) ?_
    refine own_go (B := T82.setTop (mkF m 210 #[.val (.int p0), .val (.ref b56'), .val (.int (8 : Int32)), .val (.ref (A 8)), .val (.int (7 : Int32)), .unset] [(.int (3 : Int32)), (.int (7 : Int32))])) (fun _ k => XT.iconstV X82.here hx rfl (3 : Int32) (hb hby at_209) rfl k) ?_
    refine own_go (B := T82.setTop (mkF m 213 #[.val (.int p0), .val (.ref b56'), .val (.int (8 : Int32)), .val (.ref (A 8)), .val (.int (7 : Int32)), .unset] [])) (fun _ k => XS.icmpNo X82.here hx rfl (hb hby at_210) rfl (by decide) k) ?_
    refine own_go (B := T82.setTop (mkF m 215 #[.val (.int p0), .val (.ref b56'), .val (.int (8 : Int32)), .val (.ref (A 8)), .val (.int (7 : Int32)), .unset] [(.int (7 : Int32))])) (fun _ k => XS.iload X82.here hx rfl (hb hby at_213) rfl k) ?_
    refine own_go (B := T82.setTop (mkF m 216 #[.val (.int p0), .val (.ref b56'), .val (.int (8 : Int32)), .val (.ref (A 8)), .val (.int (7 : Int32)), .unset] [(.int (5 : Int32)), (.int (7 : Int32))])) (fun _ k => XT.iconstV X82.here hx rfl (5 : Int32) (hb hby at_215) rfl k) ?_
    refine own_go (B := T82.setTop (mkF m 223 #[.val (.int p0), .val (.ref b56'), .val (.int (8 : Int32)), .val (.ref (A 8)), .val (.int (7 : Int32)), .unset] [])) (fun _ k => XS.icmpYes X82.here hx rfl (pc0 := 216) (pc' := 223) rfl (hb hby at_216) rfl (by decide) (by decide) (by decide) k) ?_
    refine own_go (B := T82.setTop (mkF m 224 #[.val (.int p0), .val (.ref b56'), .val (.int (8 : Int32)), .val (.ref (A 8)), .val (.int (7 : Int32)), .unset] [(.int (0 : Int32))])) (fun _ k => XT.iconstV X82.here hx rfl (0 : Int32) (hb hby at_223) rfl k) ?_
    refine own_go (B := T82.setTop (mkF m 226 #[.val (.int p0), .val (.ref b56'), .val (.int (8 : Int32)), .val (.ref (A 8)), .val (.int (7 : Int32)), .val (.int (0 : Int32))] [])) (fun _ k => XS.istore X82.here hx rfl (hb hby at_224) rfl (l' := #[.val (.int p0), .val (.ref b56'), .val (.int (8 : Int32)), .val (.ref (A 8)), .val (.int (7 : Int32)), .val (.int (0 : Int32))]) rfl k) ?_
    refine own_go (B := T82.setTop (mkF m 227 #[.val (.int p0), .val (.ref b56'), .val (.int (8 : Int32)), .val (.ref (A 8)), .val (.int (7 : Int32)), .val (.int (0 : Int32))] [(.ref (A 8))])) (fun _ k => XS.aloadN X82.here hx rfl (hb hby at_226) rfl rfl k) ?_
    obtain ⟨cq83, kq83, q83a, q83b, q83c⟩ := isOf hZ e82 (E_LESS.ext x56')
    obtain ⟨_, _, ⟨T83, L83, k83, n83⟩, -, X83, ⟨Lc83, hQ83, l83, y83, z83⟩, st83⟩ := X82.virtualBack hx (y := (⟨"com/example/kilnbyte/kilnbyte/tree/Operator", "isBitwise", "()Z"⟩ : MethodName)) (z := (⟨"com/example/kilnbyte/kilnbyte/tree/Operator", "isBitwise", "()Z"⟩ : MethodName)) hown (mvT hZ (hw _ (List.mem_of_getElem? (i := 66) rfl))) (mvT hZ (hw _ (List.mem_of_getElem? (i := 67) rfl))) (notFace_of_selects (args := #[]) (mvT hZ (hw _ (List.mem_of_getElem? (i := 69) rfl)))) (mvT hZ (hw _ (List.mem_of_getElem? (i := 69) rfl))) (mvT hZ (hw _ (List.mem_of_getElem? (i := 68) rfl))) (by decide) (own_back (W := 0) (rm2_8 l Z a0 hw []  A hW h56' x56' ) hZ (hw _ (List.mem_of_getElem? (i := 70) rfl)) (hw _ (List.mem_of_getElem? (i := 3) rfl)) (by decide) (by decide)) q83a q83c (g := (mkF m 227 #[.val (.int p0), .val (.ref b56'), .val (.int (8 : Int32)), .val (.ref (A 8)), .val (.int (7 : Int32)), .val (.int (0 : Int32))] [(.ref (A 8))])) rfl (by rw [hml]; rfl) (Steps.refl _) (argsL := []) (rest := []) (lenOf pd_1 rfl) rfl (by show 2 * 0 + _ ≤ _; exact Nat.le_of_eq rfl) (hb hby at_227) (fun _ _ => ⟨rfl, e82, (by decide : 1 + 0 ≤ _), (by decide : 27 + 0 ≤ _)⟩)
    dsimp only [Pt.U, Pt.locs, Pt.cells, Pt.slots] at X83 l83 y83 z83 st83 hQ83
    subst l83 y83 z83
    obtain ⟨rfl, N83q, e83⟩ := hQ83
    have N83 := Fr.app N82 N83q
    refine own_go (B := T83.setTop (mkF m 230 #[.val (.int p0), .val (.ref b56'), .val (.int (8 : Int32)), .val (.ref (A 8)), .val (.int (7 : Int32)), .val (.int (0 : Int32))] [(.int (0 : Int32))])) (fun _ k => st83.trans k) ?_
    refine own_go (B := T83.setTop (mkF m 232 #[.val (.int p0), .val (.ref b56'), .val (.int (8 : Int32)), .val (.ref (A 8)), .val (.int (7 : Int32)), .val (.int (0 : Int32))] [(.int (0 : Int32)), (.int (0 : Int32))])) (fun _ k => XS.iload X83.here hx rfl (hb hby at_230) rfl k) ?_
    refine own_go (B := T83.setTop (mkF m 235 #[.val (.int p0), .val (.ref b56'), .val (.int (8 : Int32)), .val (.ref (A 8)), .val (.int (7 : Int32)), .val (.int (0 : Int32))] [])) (fun _ k => XS.icmpNo X83.here hx rfl (hb hby at_232) rfl (by decide) k) ?_
    refine own_go (B := T83.setTop (mkF m 236 #[.val (.int p0), .val (.ref b56'), .val (.int (8 : Int32)), .val (.ref (A 8)), .val (.int (7 : Int32)), .val (.int (0 : Int32))] [(.int (1 : Int32))])) (fun _ k => XT.iconstV X83.here hx rfl (1 : Int32) (hb hby at_235) rfl k) ?_
    refine own_go (B := T83.setTop (mkF m 240 #[.val (.int p0), .val (.ref b56'), .val (.int (8 : Int32)), .val (.ref (A 8)), .val (.int (7 : Int32)), .val (.int (0 : Int32))] [(.int (1 : Int32))])) (fun _ k => XS.goto X83.here hx rfl (pc0 := 236) (pc' := 240) rfl (hb hby at_236) (by decide) (by decide) k) ?_
    exact own_ret X83 hx (t := .boolean) hrt rfl (Or.inl ⟨rfl, by simp, _, rfl⟩) (hb hby at_240) hlk ⟨rfl, N83⟩ (by decide) (by decide)
  · refine own_go (B := T56'.setTop (mkF m 198 #[.val (.int p0), .val (.ref b56'), .val (.int (9 : Int32)), .unset, .unset, .unset] [(.ref b56')])) (fun _ k => XS.aloadN X56'.here hx rfl (hb hby at_197) rfl rfl k) ?_
    refine own_go (B := T56'.setTop (mkF m 199 #[.val (.int p0), .val (.ref b56'), .val (.int (9 : Int32)), .unset, .unset, .unset] [(.int (9 : Int32)), (.ref b56')])) (fun _ k => XS.iloadN X56'.here hx rfl (hb hby at_198) rfl k) ?_
    obtain ⟨cl84, Ar84, q84a, q84b, q84c, q84d, q84e⟩ := id V56'
    have i84 := inb_of (j := (9 : Int32)) q84b ⟨by decide, by decide⟩
    refine own_go (B := T56'.setTop (mkF m 200 #[.val (.int p0), .val (.ref b56'), .val (.int (9 : Int32)), .unset, .unset, .unset] [(.ref (A 9))])) (fun _ k => X56'.aaload hx (j := (9 : Int32)) (v := (.ref (A 9))) (by rw [e56']; exact Ar84.1) (State.isArrayOf_alike hZ.alike Ar84.2.1) rfl Ar84.2.2 i84 (Has.at q84d i84 rfl) (g := (mkF m 199 #[.val (.int p0), .val (.ref b56'), .val (.int (9 : Int32)), .unset, .unset, .unset] [(.int (9 : Int32)), (.ref b56')])) rfl rfl (hb hby at_199) _ k) ?_
    refine own_go (B := T56'.setTop (mkF m 201 #[.val (.int p0), .val (.ref b56'), .val (.int (9 : Int32)), .val (.ref (A 9)), .unset, .unset] [])) (fun _ k => XS.astoreN X56'.here hx rfl (hb hby at_200) rfl rfl (l' := #[.val (.int p0), .val (.ref b56'), .val (.int (9 : Int32)), .val (.ref (A 9)), .unset, .unset]) rfl k) ?_
    refine own_go (B := T56'.setTop (mkF m 202 #[.val (.int p0), .val (.ref b56'), .val (.int (9 : Int32)), .val (.ref (A 9)), .unset, .unset] [(.ref (A 9))])) (fun _ k => XS.aloadN X56'.here hx rfl (hb hby at_201) rfl rfl k) ?_
    obtain ⟨cq85, kq85, q85a, q85b, q85c⟩ := isOf hZ e56' (E_GREATER.ext x56')
    obtain ⟨_, _, ⟨T85, L85, k85, n85⟩, -, X85, ⟨Lc85, hQ85, l85, y85, z85⟩, st85⟩ := X56'.virtualBack hx (y := (⟨"com/example/kilnbyte/kilnbyte/tree/Operator", "precedence", "()I"⟩ : MethodName)) (z := (⟨"com/example/kilnbyte/kilnbyte/tree/Operator", "precedence", "()I"⟩ : MethodName)) hown (mvT hZ (hw _ (List.mem_of_getElem? (i := 59) rfl))) (mvT hZ (hw _ (List.mem_of_getElem? (i := 60) rfl))) (notFace_of_selects (args := #[]) (mvT hZ (hw _ (List.mem_of_getElem? (i := 62) rfl)))) (mvT hZ (hw _ (List.mem_of_getElem? (i := 62) rfl))) (mvT hZ (hw _ (List.mem_of_getElem? (i := 61) rfl))) (by decide) (own_back (W := 0) (rm1_9 l Z a0 hw []  A hW h56' x56' ) hZ (hw _ (List.mem_of_getElem? (i := 63) rfl)) (hw _ (List.mem_of_getElem? (i := 3) rfl)) (by decide) (by decide)) q85a q85c (g := (mkF m 202 #[.val (.int p0), .val (.ref b56'), .val (.int (9 : Int32)), .val (.ref (A 9)), .unset, .unset] [(.ref (A 9))])) rfl (by rw [hml]; rfl) (Steps.refl _) (argsL := []) (rest := []) (lenOf pd_0 rfl) rfl (by show 2 * 0 + _ ≤ _; exact Nat.le_of_eq rfl) (hb hby at_202) (fun _ _ => ⟨rfl, e56', (by decide : 1 + 0 ≤ _), (by decide : 27 + 0 ≤ _)⟩)
    dsimp only [Pt.U, Pt.locs, Pt.cells, Pt.slots] at X85 l85 y85 z85 st85 hQ85
    subst l85 y85 z85
    obtain ⟨rfl, N85q, e85⟩ := hQ85
    have N85 := Fr.app N56' N85q
    refine own_go (B := T85.setTop (mkF m 205 #[.val (.int p0), .val (.ref b56'), .val (.int (9 : Int32)), .val (.ref (A 9)), .unset, .unset] [(.int (7 : Int32))])) (fun _ k => st85.trans k) ?_
    refine own_go (B := T85.setTop (mkF m 207 #[.val (.int p0), .val (.ref b56'), .val (.int (9 : Int32)), .val (.ref (A 9)), .val (.int (7 : Int32)), .unset] [])) (fun _ k => XS.istore X85.here hx rfl (hb hby at_205) rfl (l' := #[.val (.int p0), .val (.ref b56'), .val (.int (9 : Int32)), .val (.ref (A 9)), .val (.int (7 : Int32)), .unset]) rfl k) ?_
    refine own_go (B := T85.setTop (mkF m 209 #[.val (.int p0), .val (.ref b56'), .val (.int (9 : Int32)), .val (.ref (A 9)), .val (.int (7 : Int32)), .unset] [(.int (7 : Int32))])) (fun _ k => XS.iload X85.here hx rfl (hb hby at_207) rfl k) ?_
    refine own_go (B := T85.setTop (mkF m 210 #[.val (.int p0), .val (.ref b56'), .val (.int (9 : Int32)), .val (.ref (A 9)), .val (.int (7 : Int32)), .unset] [(.int (3 : Int32)), (.int (7 : Int32))])) (fun _ k => XT.iconstV X85.here hx rfl (3 : Int32) (hb hby at_209) rfl k) ?_
    refine own_go (B := T85.setTop (mkF m 213 #[.val (.int p0), .val (.ref b56'), .val (.int (9 : Int32)), .val (.ref (A 9)), .val (.int (7 : Int32)), .unset] [])) (fun _ k => XS.icmpNo X85.here hx rfl (hb hby at_210) rfl (by decide) k) ?_
    refine own_go (B := T85.setTop (mkF m 215 #[.val (.int p0), .val (.ref b56'), .val (.int (9 : Int32)), .val (.ref (A 9)), .val (.int (7 : Int32)), .unset] [(.int (7 : Int32))])) (fun _ k => XS.iload X85.here hx rfl (hb hby at_213) rfl k) ?_
    refine own_go (B := T85.setTop (mkF m 216 #[.val (.int p0), .val (.ref b56'), .val (.int (9 : Int32)), .val (.ref (A 9)), .val (.int (7 : Int32)), .unset] [(.int (5 : Int32)), (.int (7 : Int32))])) (fun _ k => XT.iconstV X85.here hx rfl (5 : Int32) (hb hby at_215) rfl k) ?_
    refine own_go (B := T85.setTop (mkF m 223 #[.val (.int p0), .val (.ref b56'), .val (.int (9 : Int32)), .val (.ref (A 9)), .val (.int (7 : Int32)), .unset] [])) (fun _ k => XS.icmpYes X85.here hx rfl (pc0 := 216) (pc' := 223) rfl (hb hby at_216) rfl (by decide) (by decide) (by decide) k) ?_
    refine own_go (B := T85.setTop (mkF m 224 #[.val (.int p0), .val (.ref b56'), .val (.int (9 : Int32)), .val (.ref (A 9)), .val (.int (7 : Int32)), .unset] [(.int (0 : Int32))])) (fun _ k => XT.iconstV X85.here hx rfl (0 : Int32) (hb hby at_223) rfl k) ?_
    refine own_go (B := T85.setTop (mkF m 226 #[.val (.int p0), .val (.ref b56'), .val (.int (9 : Int32)), .val (.ref (A 9)), .val (.int (7 : Int32)), .val (.int (0 : Int32))] [])) (fun _ k => XS.istore X85.here hx rfl (hb hby at_224) rfl (l' := #[.val (.int p0), .val (.ref b56'), .val (.int (9 : Int32)), .val (.ref (A 9)), .val (.int (7 : Int32)), .val (.int (0 : Int32))]) rfl k) ?_
    refine own_go (B := T85.setTop (mkF m 227 #[.val (.int p0), .val (.ref b56'), .val (.int (9 : Int32)), .val (.ref (A 9)), .val (.int (7 : Int32)), .val (.int (0 : Int32))] [(.ref (A 9))])) (fun _ k => XS.aloadN X85.here hx rfl (hb hby at_226) rfl rfl k) ?_
    obtain ⟨cq86, kq86, q86a, q86b, q86c⟩ := isOf hZ e85 (E_GREATER.ext x56')
    obtain ⟨_, _, ⟨T86, L86, k86, n86⟩, -, X86, ⟨Lc86, hQ86, l86, y86, z86⟩, st86⟩ := X85.virtualBack hx (y := (⟨"com/example/kilnbyte/kilnbyte/tree/Operator", "isBitwise", "()Z"⟩ : MethodName)) (z := (⟨"com/example/kilnbyte/kilnbyte/tree/Operator", "isBitwise", "()Z"⟩ : MethodName)) hown (mvT hZ (hw _ (List.mem_of_getElem? (i := 66) rfl))) (mvT hZ (hw _ (List.mem_of_getElem? (i := 67) rfl))) (notFace_of_selects (args := #[]) (mvT hZ (hw _ (List.mem_of_getElem? (i := 69) rfl)))) (mvT hZ (hw _ (List.mem_of_getElem? (i := 69) rfl))) (mvT hZ (hw _ (List.mem_of_getElem? (i := 68) rfl))) (by decide) (own_back (W := 0) (rm2_9 l Z a0 hw []  A hW h56' x56' ) hZ (hw _ (List.mem_of_getElem? (i := 70) rfl)) (hw _ (List.mem_of_getElem? (i := 3) rfl)) (by decide) (by decide)) q86a q86c (g := (mkF m 227 #[.val (.int p0), .val (.ref b56'), .val (.int (9 : Int32)), .val (.ref (A 9)), .val (.int (7 : Int32)), .val (.int (0 : Int32))] [(.ref (A 9))])) rfl (by rw [hml]; rfl) (Steps.refl _) (argsL := []) (rest := []) (lenOf pd_1 rfl) rfl (by show 2 * 0 + _ ≤ _; exact Nat.le_of_eq rfl) (hb hby at_227) (fun _ _ => ⟨rfl, e85, (by decide : 1 + 0 ≤ _), (by decide : 27 + 0 ≤ _)⟩)
    dsimp only [Pt.U, Pt.locs, Pt.cells, Pt.slots] at X86 l86 y86 z86 st86 hQ86
    subst l86 y86 z86
    obtain ⟨rfl, N86q, e86⟩ := hQ86
    have N86 := Fr.app N85 N86q
    refine own_go (B := T86.setTop (mkF m 230 #[.val (.int p0), .val (.ref b56'), .val (.int (9 : Int32)), .val (.ref (A 9)), .val (.int (7 : Int32)), .val (.int (0 : Int32))] [(.int (0 : Int32))])) (fun _ k => st86.trans k) ?_
    refine own_go (B := T86.setTop (mkF m 232 #[.val (.int p0), .val (.ref b56'), .val (.int (9 : Int32)), .val (.ref (A 9)), .val (.int (7 : Int32)), .val (.int (0 : Int32))] [(.int (0 : Int32)), (.int (0 : Int32))])) (fun _ k => XS.iload X86.here hx rfl (hb hby at_230) rfl k) ?_
    refine own_go (B := T86.setTop (mkF m 235 #[.val (.int p0), .val (.ref b56'), .val (.int (9 : Int32)), .val (.ref (A 9)), .val (.int (7 : Int32)), .val (.int (0 : Int32))] [])) (fun _ k => XS.icmpNo X86.here hx rfl (hb hby at_232) rfl (by decide) k) ?_
    refine own_go (B := T86.setTop (mkF m 236 #[.val (.int p0), .val (.ref b56'), .val (.int (9 : Int32)), .val (.ref (A 9)), .val (.int (7 : Int32)), .val (.int (0 : Int32))] [(.int (1 : Int32))])) (fun _ k => XT.iconstV X86.here hx rfl (1 : Int32) (hb hby at_235) rfl k) ?_
    refine own_go (B := T86.setTop (mkF m 240 #[.val (.int p0), .val (.ref b56'), .val (.int (9 : Int32)), .val (.ref (A 9)), .val (.int (7 : Int32)), .val (.int (0 : Int32))] [(.int (1 : Int32))])) (fun _ k => XS.goto X86.here hx rfl (pc0 := 236) (pc' := 240) rfl (hb hby at_236) (by decide) (by decide) k) ?_
    exact own_ret X86 hx (t := .boolean) hrt rfl (Or.inl ⟨rfl, by simp, _, rfl⟩) (hb hby at_240) hlk ⟨rfl, N86⟩ (by decide) (by decide)
  · refine own_go (B := T56'.setTop (mkF m 198 #[.val (.int p0), .val (.ref b56'), .val (.int (10 : Int32)), .unset, .unset, .unset] [(.ref b56')])) (fun _ k => XS.aloadN X56'.here hx rfl (hb hby at_197) rfl rfl k) ?_
    refine own_go (B := T56'.setTop (mkF m 199 #[.val (.int p0), .val (.ref b56'), .val (.int (10 : Int32)), .unset, .unset, .unset] [(.int (10 : Int32)), (.ref b56')])) (fun _ k => XS.iloadN X56'.here hx rfl (hb hby at_198) rfl k) ?_
    obtain ⟨cl87, Ar87, q87a, q87b, q87c, q87d, q87e⟩ := id V56'
    have i87 := inb_of (j := (10 : Int32)) q87b ⟨by decide, by decide⟩
    refine own_go (B := T56'.setTop (mkF m 200 #[.val (.int p0), .val (.ref b56'), .val (.int (10 : Int32)), .unset, .unset, .unset] [(.ref (A 10))])) (fun _ k => X56'.aaload hx (j := (10 : Int32)) (v := (.ref (A 10))) (by rw [e56']; exact Ar87.1) (State.isArrayOf_alike hZ.alike Ar87.2.1) rfl Ar87.2.2 i87 (Has.at q87d i87 rfl) (g := (mkF m 199 #[.val (.int p0), .val (.ref b56'), .val (.int (10 : Int32)), .unset, .unset, .unset] [(.int (10 : Int32)), (.ref b56')])) rfl rfl (hb hby at_199) _ k) ?_
    refine own_go (B := T56'.setTop (mkF m 201 #[.val (.int p0), .val (.ref b56'), .val (.int (10 : Int32)), .val (.ref (A 10)), .unset, .unset] [])) (fun _ k => XS.astoreN X56'.here hx rfl (hb hby at_200) rfl rfl (l' := #[.val (.int p0), .val (.ref b56'), .val (.int (10 : Int32)), .val (.ref (A 10)), .unset, .unset]) rfl k) ?_
    refine own_go (B := T56'.setTop (mkF m 202 #[.val (.int p0), .val (.ref b56'), .val (.int (10 : Int32)), .val (.ref (A 10)), .unset, .unset] [(.ref (A 10))])) (fun _ k => XS.aloadN X56'.here hx rfl (hb hby at_201) rfl rfl k) ?_
    obtain ⟨cq88, kq88, q88a, q88b, q88c⟩ := isOf hZ e56' (E_LESS_EQUAL.ext x56')
    obtain ⟨_, _, ⟨T88, L88, k88, n88⟩, -, X88, ⟨Lc88, hQ88, l88, y88, z88⟩, st88⟩ := X56'.virtualBack hx (y := (⟨"com/example/kilnbyte/kilnbyte/tree/Operator", "precedence", "()I"⟩ : MethodName)) (z := (⟨"com/example/kilnbyte/kilnbyte/tree/Operator", "precedence", "()I"⟩ : MethodName)) hown (mvT hZ (hw _ (List.mem_of_getElem? (i := 59) rfl))) (mvT hZ (hw _ (List.mem_of_getElem? (i := 60) rfl))) (notFace_of_selects (args := #[]) (mvT hZ (hw _ (List.mem_of_getElem? (i := 62) rfl)))) (mvT hZ (hw _ (List.mem_of_getElem? (i := 62) rfl))) (mvT hZ (hw _ (List.mem_of_getElem? (i := 61) rfl))) (by decide) (own_back (W := 0) (rm1_10 l Z a0 hw []  A hW h56' x56' ) hZ (hw _ (List.mem_of_getElem? (i := 63) rfl)) (hw _ (List.mem_of_getElem? (i := 3) rfl)) (by decide) (by decide)) q88a q88c (g := (mkF m 202 #[.val (.int p0), .val (.ref b56'), .val (.int (10 : Int32)), .val (.ref (A 10)), .unset, .unset] [(.ref (A 10))])) rfl (by rw [hml]; rfl) (Steps.refl _) (argsL := []) (rest := []) (lenOf pd_0 rfl) rfl (by show 2 * 0 + _ ≤ _; exact Nat.le_of_eq rfl) (hb hby at_202) (fun _ _ => ⟨rfl, e56', (by decide : 1 + 0 ≤ _), (by decide : 27 + 0 ≤ _)⟩)
    dsimp only [Pt.U, Pt.locs, Pt.cells, Pt.slots] at X88 l88 y88 z88 st88 hQ88
    subst l88 y88 z88
    obtain ⟨rfl, N88q, e88⟩ := hQ88
    have N88 := Fr.app N56' N88q
    refine own_go (B := T88.setTop (mkF m 205 #[.val (.int p0), .val (.ref b56'), .val (.int (10 : Int32)), .val (.ref (A 10)), .unset, .unset] [(.int (7 : Int32))])) (fun _ k => st88.trans k) ?_
    refine own_go (B := T88.setTop (mkF m 207 #[.val (.int p0), .val (.ref b56'), .val (.int (10 : Int32)), .val (.ref (A 10)), .val (.int (7 : Int32)), .unset] [])) (fun _ k => XS.istore X88.here hx rfl (hb hby at_205) rfl (l' := #[.val (.int p0), .val (.ref b56'), .val (.int (10 : Int32)), .val (.ref (A 10)), .val (.int (7 : Int32)), .unset]) rfl k) ?_
    refine own_go (B := T88.setTop (mkF m 209 #[.val (.int p0), .val (.ref b56'), .val (.int (10 : Int32)), .val (.ref (A 10)), .val (.int (7 : Int32)), .unset] [(.int (7 : Int32))])) (fun _ k => XS.iload X88.here hx rfl (hb hby at_207) rfl k) ?_
    refine own_go (B := T88.setTop (mkF m 210 #[.val (.int p0), .val (.ref b56'), .val (.int (10 : Int32)), .val (.ref (A 10)), .val (.int (7 : Int32)), .unset] [(.int (3 : Int32)), (.int (7 : Int32))])) (fun _ k => XT.iconstV X88.here hx rfl (3 : Int32) (hb hby at_209) rfl k) ?_
    refine own_go (B := T88.setTop (mkF m 213 #[.val (.int p0), .val (.ref b56'), .val (.int (10 : Int32)), .val (.ref (A 10)), .val (.int (7 : Int32)), .unset] [])) (fun _ k => XS.icmpNo X88.here hx rfl (hb hby at_210) rfl (by decide) k) ?_
    refine own_go (B := T88.setTop (mkF m 215 #[.val (.int p0), .val (.ref b56'), .val (.int (10 : Int32)), .val (.ref (A 10)), .val (.int (7 : Int32)), .unset] [(.int (7 : Int32))])) (fun _ k => XS.iload X88.here hx rfl (hb hby at_213) rfl k) ?_
    refine own_go (B := T88.setTop (mkF m 216 #[.val (.int p0), .val (.ref b56'), .val (.int (10 : Int32)), .val (.ref (A 10)), .val (.int (7 : Int32)), .unset] [(.int (5 : Int32)), (.int (7 : Int32))])) (fun _ k => XT.iconstV X88.here hx rfl (5 : Int32) (hb hby at_215) rfl k) ?_
    refine own_go (B := T88.setTop (mkF m 223 #[.val (.int p0), .val (.ref b56'), .val (.int (10 : Int32)), .val (.ref (A 10)), .val (.int (7 : Int32)), .unset] [])) (fun _ k => XS.icmpYes X88.here hx rfl (pc0 := 216) (pc' := 223) rfl (hb hby at_216) rfl (by decide) (by decide) (by decide) k) ?_
    refine own_go (B := T88.setTop (mkF m 224 #[.val (.int p0), .val (.ref b56'), .val (.int (10 : Int32)), .val (.ref (A 10)), .val (.int (7 : Int32)), .unset] [(.int (0 : Int32))])) (fun _ k => XT.iconstV X88.here hx rfl (0 : Int32) (hb hby at_223) rfl k) ?_
    refine own_go (B := T88.setTop (mkF m 226 #[.val (.int p0), .val (.ref b56'), .val (.int (10 : Int32)), .val (.ref (A 10)), .val (.int (7 : Int32)), .val (.int (0 : Int32))] [])) (fun _ k => XS.istore X88.here hx rfl (hb hby at_224) rfl (l' := #[.val (.int p0), .val (.ref b56'), .val (.int (10 : Int32)), .val (.ref (A 10)), .val (.int (7 : Int32)), .val (.int (0 : Int32))]) rfl k) ?_
    refine own_go (B := T88.setTop (mkF m 227 #[.val (.int p0), .val (.ref b56'), .val (.int (10 : Int32)), .val (.ref (A 10)), .val (.int (7 : Int32)), .val (.int (0 : Int32))] [(.ref (A 10))])) (fun _ k => XS.aloadN X88.here hx rfl (hb hby at_226) rfl rfl k) ?_
    obtain ⟨cq89, kq89, q89a, q89b, q89c⟩ := isOf hZ e88 (E_LESS_EQUAL.ext x56')
    obtain ⟨_, _, ⟨T89, L89, k89, n89⟩, -, X89, ⟨Lc89, hQ89, l89, y89, z89⟩, st89⟩ := X88.virtualBack hx (y := (⟨"com/example/kilnbyte/kilnbyte/tree/Operator", "isBitwise", "()Z"⟩ : MethodName)) (z := (⟨"com/example/kilnbyte/kilnbyte/tree/Operator", "isBitwise", "()Z"⟩ : MethodName)) hown (mvT hZ (hw _ (List.mem_of_getElem? (i := 66) rfl))) (mvT hZ (hw _ (List.mem_of_getElem? (i := 67) rfl))) (notFace_of_selects (args := #[]) (mvT hZ (hw _ (List.mem_of_getElem? (i := 69) rfl)))) (mvT hZ (hw _ (List.mem_of_getElem? (i := 69) rfl))) (mvT hZ (hw _ (List.mem_of_getElem? (i := 68) rfl))) (by decide) (own_back (W := 0) (rm2_10 l Z a0 hw []  A hW h56' x56' ) hZ (hw _ (List.mem_of_getElem? (i := 70) rfl)) (hw _ (List.mem_of_getElem? (i := 3) rfl)) (by decide) (by decide)) q89a q89c (g := (mkF m 227 #[.val (.int p0), .val (.ref b56'), .val (.int (10 : Int32)), .val (.ref (A 10)), .val (.int (7 : Int32)), .val (.int (0 : Int32))] [(.ref (A 10))])) rfl (by rw [hml]; rfl) (Steps.refl _) (argsL := []) (rest := []) (lenOf pd_1 rfl) rfl (by show 2 * 0 + _ ≤ _; exact Nat.le_of_eq rfl) (hb hby at_227) (fun _ _ => ⟨rfl, e88, (by decide : 1 + 0 ≤ _), (by decide : 27 + 0 ≤ _)⟩)
    dsimp only [Pt.U, Pt.locs, Pt.cells, Pt.slots] at X89 l89 y89 z89 st89 hQ89
    subst l89 y89 z89
    obtain ⟨rfl, N89q, e89⟩ := hQ89
    have N89 := Fr.app N88 N89q
    refine own_go (B := T89.setTop (mkF m 230 #[.val (.int p0), .val (.ref b56'), .val (.int (10 : Int32)), .val (.ref (A 10)), .val (.int (7 : Int32)), .val (.int (0 : Int32))] [(.int (0 : Int32))])) (fun _ k => st89.trans k) ?_
    refine own_go (B := T89.setTop (mkF m 232 #[.val (.int p0), .val (.ref b56'), .val (.int (10 : Int32)), .val (.ref (A 10)), .val (.int (7 : Int32)), .val (.int (0 : Int32))] [(.int (0 : Int32)), (.int (0 : Int32))])) (fun _ k => XS.iload X89.here hx rfl (hb hby at_230) rfl k) ?_
    refine own_go (B := T89.setTop (mkF m 235 #[.val (.int p0), .val (.ref b56'), .val (.int (10 : Int32)), .val (.ref (A 10)), .val (.int (7 : Int32)), .val (.int (0 : Int32))] [])) (fun _ k => XS.icmpNo X89.here hx rfl (hb hby at_232) rfl (by decide) k) ?_
    refine own_go (B := T89.setTop (mkF m 236 #[.val (.int p0), .val (.ref b56'), .val (.int (10 : Int32)), .val (.ref (A 10)), .val (.int (7 : Int32)), .val (.int (0 : Int32))] [(.int (1 : Int32))])) (fun _ k => XT.iconstV X89.here hx rfl (1 : Int32) (hb hby at_235) rfl k) ?_
    refine own_go (B := T89.setTop (mkF m 240 #[.val (.int p0), .val (.ref b56'), .val (.int (10 : Int32)), .val (.ref (A 10)), .val (.int (7 : Int32)), .val (.int (0 : Int32))] [(.int (1 : Int32))])) (fun _ k => XS.goto X89.here hx rfl (pc0 := 236) (pc' := 240) rfl (hb hby at_236) (by decide) (by decide) k) ?_
    exact own_ret X89 hx (t := .boolean) hrt rfl (Or.inl ⟨rfl, by simp, _, rfl⟩) (hb hby at_240) hlk ⟨rfl, N89⟩ (by decide) (by decide)
  · refine own_go (B := T56'.setTop (mkF m 198 #[.val (.int p0), .val (.ref b56'), .val (.int (11 : Int32)), .unset, .unset, .unset] [(.ref b56')])) (fun _ k => XS.aloadN X56'.here hx rfl (hb hby at_197) rfl rfl k) ?_
    refine own_go (B := T56'.setTop (mkF m 199 #[.val (.int p0), .val (.ref b56'), .val (.int (11 : Int32)), .unset, .unset, .unset] [(.int (11 : Int32)), (.ref b56')])) (fun _ k => XS.iloadN X56'.here hx rfl (hb hby at_198) rfl k) ?_
    obtain ⟨cl90, Ar90, q90a, q90b, q90c, q90d, q90e⟩ := id V56'
    have i90 := inb_of (j := (11 : Int32)) q90b ⟨by decide, by decide⟩
    refine own_go (B := T56'.setTop (mkF m 200 #[.val (.int p0), .val (.ref b56'), .val (.int (11 : Int32)), .unset, .unset, .unset] [(.ref (A 11))])) (fun _ k => X56'.aaload hx (j := (11 : Int32)) (v := (.ref (A 11))) (by rw [e56']; exact Ar90.1) (State.isArrayOf_alike hZ.alike Ar90.2.1) rfl Ar90.2.2 i90 (Has.at q90d i90 rfl) (g := (mkF m 199 #[.val (.int p0), .val (.ref b56'), .val (.int (11 : Int32)), .unset, .unset, .unset] [(.int (11 : Int32)), (.ref b56')])) rfl rfl (hb hby at_199) _ k) ?_
    refine own_go (B := T56'.setTop (mkF m 201 #[.val (.int p0), .val (.ref b56'), .val (.int (11 : Int32)), .val (.ref (A 11)), .unset, .unset] [])) (fun _ k => XS.astoreN X56'.here hx rfl (hb hby at_200) rfl rfl (l' := #[.val (.int p0), .val (.ref b56'), .val (.int (11 : Int32)), .val (.ref (A 11)), .unset, .unset]) rfl k) ?_
    refine own_go (B := T56'.setTop (mkF m 202 #[.val (.int p0), .val (.ref b56'), .val (.int (11 : Int32)), .val (.ref (A 11)), .unset, .unset] [(.ref (A 11))])) (fun _ k => XS.aloadN X56'.here hx rfl (hb hby at_201) rfl rfl k) ?_
    obtain ⟨cq91, kq91, q91a, q91b, q91c⟩ := isOf hZ e56' (E_GREATER_EQUAL.ext x56')
    obtain ⟨_, _, ⟨T91, L91, k91, n91⟩, -, X91, ⟨Lc91, hQ91, l91, y91, z91⟩, st91⟩ := X56'.virtualBack hx (y := (⟨"com/example/kilnbyte/kilnbyte/tree/Operator", "precedence", "()I"⟩ : MethodName)) (z := (⟨"com/example/kilnbyte/kilnbyte/tree/Operator", "precedence", "()I"⟩ : MethodName)) hown (mvT hZ (hw _ (List.mem_of_getElem? (i := 59) rfl))) (mvT hZ (hw _ (List.mem_of_getElem? (i := 60) rfl))) (notFace_of_selects (args := #[]) (mvT hZ (hw _ (List.mem_of_getElem? (i := 62) rfl)))) (mvT hZ (hw _ (List.mem_of_getElem? (i := 62) rfl))) (mvT hZ (hw _ (List.mem_of_getElem? (i := 61) rfl))) (by decide) (own_back (W := 0) (rm1_11 l Z a0 hw []  A hW h56' x56' ) hZ (hw _ (List.mem_of_getElem? (i := 63) rfl)) (hw _ (List.mem_of_getElem? (i := 3) rfl)) (by decide) (by decide)) q91a q91c (g := (mkF m 202 #[.val (.int p0), .val (.ref b56'), .val (.int (11 : Int32)), .val (.ref (A 11)), .unset, .unset] [(.ref (A 11))])) rfl (by rw [hml]; rfl) (Steps.refl _) (argsL := []) (rest := []) (lenOf pd_0 rfl) rfl (by show 2 * 0 + _ ≤ _; exact Nat.le_of_eq rfl) (hb hby at_202) (fun _ _ => ⟨rfl, e56', (by decide : 1 + 0 ≤ _), (by decide : 27 + 0 ≤ _)⟩)
    dsimp only [Pt.U, Pt.locs, Pt.cells, Pt.slots] at X91 l91 y91 z91 st91 hQ91
    subst l91 y91 z91
    obtain ⟨rfl, N91q, e91⟩ := hQ91
    have N91 := Fr.app N56' N91q
    refine own_go (B := T91.setTop (mkF m 205 #[.val (.int p0), .val (.ref b56'), .val (.int (11 : Int32)), .val (.ref (A 11)), .unset, .unset] [(.int (7 : Int32))])) (fun _ k => st91.trans k) ?_
    refine own_go (B := T91.setTop (mkF m 207 #[.val (.int p0), .val (.ref b56'), .val (.int (11 : Int32)), .val (.ref (A 11)), .val (.int (7 : Int32)), .unset] [])) (fun _ k => XS.istore X91.here hx rfl (hb hby at_205) rfl (l' := #[.val (.int p0), .val (.ref b56'), .val (.int (11 : Int32)), .val (.ref (A 11)), .val (.int (7 : Int32)), .unset]) rfl k) ?_
    refine own_go (B := T91.setTop (mkF m 209 #[.val (.int p0), .val (.ref b56'), .val (.int (11 : Int32)), .val (.ref (A 11)), .val (.int (7 : Int32)), .unset] [(.int (7 : Int32))])) (fun _ k => XS.iload X91.here hx rfl (hb hby at_207) rfl k) ?_
    refine own_go (B := T91.setTop (mkF m 210 #[.val (.int p0), .val (.ref b56'), .val (.int (11 : Int32)), .val (.ref (A 11)), .val (.int (7 : Int32)), .unset] [(.int (3 : Int32)), (.int (7 : Int32))])) (fun _ k => XT.iconstV X91.here hx rfl (3 : Int32) (hb hby at_209) rfl k) ?_
    refine own_go (B := T91.setTop (mkF m 213 #[.val (.int p0), .val (.ref b56'), .val (.int (11 : Int32)), .val (.ref (A 11)), .val (.int (7 : Int32)), .unset] [])) (fun _ k => XS.icmpNo X91.here hx rfl (hb hby at_210) rfl (by decide) k) ?_
    refine own_go (B := T91.setTop (mkF m 215 #[.val (.int p0), .val (.ref b56'), .val (.int (11 : Int32)), .val (.ref (A 11)), .val (.int (7 : Int32)), .unset] [(.int (7 : Int32))])) (fun _ k => XS.iload X91.here hx rfl (hb hby at_213) rfl k) ?_
    refine own_go (B := T91.setTop (mkF m 216 #[.val (.int p0), .val (.ref b56'), .val (.int (11 : Int32)), .val (.ref (A 11)), .val (.int (7 : Int32)), .unset] [(.int (5 : Int32)), (.int (7 : Int32))])) (fun _ k => XT.iconstV X91.here hx rfl (5 : Int32) (hb hby at_215) rfl k) ?_
    refine own_go (B := T91.setTop (mkF m 223 #[.val (.int p0), .val (.ref b56'), .val (.int (11 : Int32)), .val (.ref (A 11)), .val (.int (7 : Int32)), .unset] [])) (fun _ k => XS.icmpYes X91.here hx rfl (pc0 := 216) (pc' := 223) rfl (hb hby at_216) rfl (by decide) (by decide) (by decide) k) ?_
    refine own_go (B := T91.setTop (mkF m 224 #[.val (.int p0), .val (.ref b56'), .val (.int (11 : Int32)), .val (.ref (A 11)), .val (.int (7 : Int32)), .unset] [(.int (0 : Int32))])) (fun _ k => XT.iconstV X91.here hx rfl (0 : Int32) (hb hby at_223) rfl k) ?_
    refine own_go (B := T91.setTop (mkF m 226 #[.val (.int p0), .val (.ref b56'), .val (.int (11 : Int32)), .val (.ref (A 11)), .val (.int (7 : Int32)), .val (.int (0 : Int32))] [])) (fun _ k => XS.istore X91.here hx rfl (hb hby at_224) rfl (l' := #[.val (.int p0), .val (.ref b56'), .val (.int (11 : Int32)), .val (.ref (A 11)), .val (.int (7 : Int32)), .val (.int (0 : Int32))]) rfl k) ?_
    refine own_go (B := T91.setTop (mkF m 227 #[.val (.int p0), .val (.ref b56'), .val (.int (11 : Int32)), .val (.ref (A 11)), .val (.int (7 : Int32)), .val (.int (0 : Int32))] [(.ref (A 11))])) (fun _ k => XS.aloadN X91.here hx rfl (hb hby at_226) rfl rfl k) ?_
    obtain ⟨cq92, kq92, q92a, q92b, q92c⟩ := isOf hZ e91 (E_GREATER_EQUAL.ext x56')
    obtain ⟨_, _, ⟨T92, L92, k92, n92⟩, -, X92, ⟨Lc92, hQ92, l92, y92, z92⟩, st92⟩ := X91.virtualBack hx (y := (⟨"com/example/kilnbyte/kilnbyte/tree/Operator", "isBitwise", "()Z"⟩ : MethodName)) (z := (⟨"com/example/kilnbyte/kilnbyte/tree/Operator", "isBitwise", "()Z"⟩ : MethodName)) hown (mvT hZ (hw _ (List.mem_of_getElem? (i := 66) rfl))) (mvT hZ (hw _ (List.mem_of_getElem? (i := 67) rfl))) (notFace_of_selects (args := #[]) (mvT hZ (hw _ (List.mem_of_getElem? (i := 69) rfl)))) (mvT hZ (hw _ (List.mem_of_getElem? (i := 69) rfl))) (mvT hZ (hw _ (List.mem_of_getElem? (i := 68) rfl))) (by decide) (own_back (W := 0) (rm2_11 l Z a0 hw []  A hW h56' x56' ) hZ (hw _ (List.mem_of_getElem? (i := 70) rfl)) (hw _ (List.mem_of_getElem? (i := 3) rfl)) (by decide) (by decide)) q92a q92c (g := (mkF m 227 #[.val (.int p0), .val (.ref b56'), .val (.int (11 : Int32)), .val (.ref (A 11)), .val (.int (7 : Int32)), .val (.int (0 : Int32))] [(.ref (A 11))])) rfl (by rw [hml]; rfl) (Steps.refl _) (argsL := []) (rest := []) (lenOf pd_1 rfl) rfl (by show 2 * 0 + _ ≤ _; exact Nat.le_of_eq rfl) (hb hby at_227) (fun _ _ => ⟨rfl, e91, (by decide : 1 + 0 ≤ _), (by decide : 27 + 0 ≤ _)⟩)
    dsimp only [Pt.U, Pt.locs, Pt.cells, Pt.slots] at X92 l92 y92 z92 st92 hQ92
    subst l92 y92 z92
    obtain ⟨rfl, N92q, e92⟩ := hQ92
    have N92 := Fr.app N91 N92q
    refine own_go (B := T92.setTop (mkF m 230 #[.val (.int p0), .val (.ref b56'), .val (.int (11 : Int32)), .val (.ref (A 11)), .val (.int (7 : Int32)), .val (.int (0 : Int32))] [(.int (0 : Int32))])) (fun _ k => st92.trans k) ?_
    refine own_go (B := T92.setTop (mkF m 232 #[.val (.int p0), .val (.ref b56'), .val (.int (11 : Int32)), .val (.ref (A 11)), .val (.int (7 : Int32)), .val (.int (0 : Int32))] [(.int (0 : Int32)), (.int (0 : Int32))])) (fun _ k => XS.iload X92.here hx rfl (hb hby at_230) rfl k) ?_
    refine own_go (B := T92.setTop (mkF m 235 #[.val (.int p0), .val (.ref b56'), .val (.int (11 : Int32)), .val (.ref (A 11)), .val (.int (7 : Int32)), .val (.int (0 : Int32))] [])) (fun _ k => XS.icmpNo X92.here hx rfl (hb hby at_232) rfl (by decide) k) ?_
    refine own_go (B := T92.setTop (mkF m 236 #[.val (.int p0), .val (.ref b56'), .val (.int (11 : Int32)), .val (.ref (A 11)), .val (.int (7 : Int32)), .val (.int (0 : Int32))] [(.int (1 : Int32))])) (fun _ k => XT.iconstV X92.here hx rfl (1 : Int32) (hb hby at_235) rfl k) ?_
    refine own_go (B := T92.setTop (mkF m 240 #[.val (.int p0), .val (.ref b56'), .val (.int (11 : Int32)), .val (.ref (A 11)), .val (.int (7 : Int32)), .val (.int (0 : Int32))] [(.int (1 : Int32))])) (fun _ k => XS.goto X92.here hx rfl (pc0 := 236) (pc' := 240) rfl (hb hby at_236) (by decide) (by decide) k) ?_
    exact own_ret X92 hx (t := .boolean) hrt rfl (Or.inl ⟨rfl, by simp, _, rfl⟩) (hb hby at_240) hlk ⟨rfl, N92⟩ (by decide) (by decide)
  · refine own_go (B := T56'.setTop (mkF m 198 #[.val (.int p0), .val (.ref b56'), .val (.int (12 : Int32)), .unset, .unset, .unset] [(.ref b56')])) (fun _ k => XS.aloadN X56'.here hx rfl (hb hby at_197) rfl rfl k) ?_
    refine own_go (B := T56'.setTop (mkF m 199 #[.val (.int p0), .val (.ref b56'), .val (.int (12 : Int32)), .unset, .unset, .unset] [(.int (12 : Int32)), (.ref b56')])) (fun _ k => XS.iloadN X56'.here hx rfl (hb hby at_198) rfl k) ?_
    obtain ⟨cl93, Ar93, q93a, q93b, q93c, q93d, q93e⟩ := id V56'
    have i93 := inb_of (j := (12 : Int32)) q93b ⟨by decide, by decide⟩
    refine own_go (B := T56'.setTop (mkF m 200 #[.val (.int p0), .val (.ref b56'), .val (.int (12 : Int32)), .unset, .unset, .unset] [(.ref (A 12))])) (fun _ k => X56'.aaload hx (j := (12 : Int32)) (v := (.ref (A 12))) (by rw [e56']; exact Ar93.1) (State.isArrayOf_alike hZ.alike Ar93.2.1) rfl Ar93.2.2 i93 (Has.at q93d i93 rfl) (g := (mkF m 199 #[.val (.int p0), .val (.ref b56'), .val (.int (12 : Int32)), .unset, .unset, .unset] [(.int (12 : Int32)), (.ref b56')])) rfl rfl (hb hby at_199) _ k) ?_
    refine own_go (B := T56'.setTop (mkF m 201 #[.val (.int p0), .val (.ref b56'), .val (.int (12 : Int32)), .val (.ref (A 12)), .unset, .unset] [])) (fun _ k => XS.astoreN X56'.here hx rfl (hb hby at_200) rfl rfl (l' := #[.val (.int p0), .val (.ref b56'), .val (.int (12 : Int32)), .val (.ref (A 12)), .unset, .unset]) rfl k) ?_
    refine own_go (B := T56'.setTop (mkF m 202 #[.val (.int p0), .val (.ref b56'), .val (.int (12 : Int32)), .val (.ref (A 12)), .unset, .unset] [(.ref (A 12))])) (fun _ k => XS.aloadN X56'.here hx rfl (hb hby at_201) rfl rfl k) ?_
    obtain ⟨cq94, kq94, q94a, q94b, q94c⟩ := isOf hZ e56' (E_EQUAL.ext x56')
    obtain ⟨_, _, ⟨T94, L94, k94, n94⟩, -, X94, ⟨Lc94, hQ94, l94, y94, z94⟩, st94⟩ := X56'.virtualBack hx (y := (⟨"com/example/kilnbyte/kilnbyte/tree/Operator", "precedence", "()I"⟩ : MethodName)) (z := (⟨"com/example/kilnbyte/kilnbyte/tree/Operator", "precedence", "()I"⟩ : MethodName)) hown (mvT hZ (hw _ (List.mem_of_getElem? (i := 59) rfl))) (mvT hZ (hw _ (List.mem_of_getElem? (i := 60) rfl))) (notFace_of_selects (args := #[]) (mvT hZ (hw _ (List.mem_of_getElem? (i := 62) rfl)))) (mvT hZ (hw _ (List.mem_of_getElem? (i := 62) rfl))) (mvT hZ (hw _ (List.mem_of_getElem? (i := 61) rfl))) (by decide) (own_back (W := 0) (rm1_12 l Z a0 hw []  A hW h56' x56' ) hZ (hw _ (List.mem_of_getElem? (i := 63) rfl)) (hw _ (List.mem_of_getElem? (i := 3) rfl)) (by decide) (by decide)) q94a q94c (g := (mkF m 202 #[.val (.int p0), .val (.ref b56'), .val (.int (12 : Int32)), .val (.ref (A 12)), .unset, .unset] [(.ref (A 12))])) rfl (by rw [hml]; rfl) (Steps.refl _) (argsL := []) (rest := []) (lenOf pd_0 rfl) rfl (by show 2 * 0 + _ ≤ _; exact Nat.le_of_eq rfl) (hb hby at_202) (fun _ _ => ⟨rfl, e56', (by decide : 1 + 0 ≤ _), (by decide : 27 + 0 ≤ _)⟩)
    dsimp only [Pt.U, Pt.locs, Pt.cells, Pt.slots] at X94 l94 y94 z94 st94 hQ94
    subst l94 y94 z94
    obtain ⟨rfl, N94q, e94⟩ := hQ94
    have N94 := Fr.app N56' N94q
    refine own_go (B := T94.setTop (mkF m 205 #[.val (.int p0), .val (.ref b56'), .val (.int (12 : Int32)), .val (.ref (A 12)), .unset, .unset] [(.int (6 : Int32))])) (fun _ k => st94.trans k) ?_
    refine own_go (B := T94.setTop (mkF m 207 #[.val (.int p0), .val (.ref b56'), .val (.int (12 : Int32)), .val (.ref (A 12)), .val (.int (6 : Int32)), .unset] [])) (fun _ k => XS.istore X94.here hx rfl (hb hby at_205) rfl (l' := #[.val (.int p0), .val (.ref b56'), .val (.int (12 : Int32)), .val (.ref (A 12)), .val (.int (6 : Int32)), .unset]) rfl k) ?_
    refine own_go (B := T94.setTop (mkF m 209 #[.val (.int p0), .val (.ref b56'), .val (.int (12 : Int32)), .val (.ref (A 12)), .val (.int (6 : Int32)), .unset] [(.int (6 : Int32))])) (fun _ k => XS.iload X94.here hx rfl (hb hby at_207) rfl k) ?_
    refine own_go (B := T94.setTop (mkF m 210 #[.val (.int p0), .val (.ref b56'), .val (.int (12 : Int32)), .val (.ref (A 12)), .val (.int (6 : Int32)), .unset] [(.int (3 : Int32)), (.int (6 : Int32))])) (fun _ k => XT.iconstV X94.here hx rfl (3 : Int32) (hb hby at_209) rfl k) ?_
    refine own_go (B := T94.setTop (mkF m 213 #[.val (.int p0), .val (.ref b56'), .val (.int (12 : Int32)), .val (.ref (A 12)), .val (.int (6 : Int32)), .unset] [])) (fun _ k => XS.icmpNo X94.here hx rfl (hb hby at_210) rfl (by decide) k) ?_
    refine own_go (B := T94.setTop (mkF m 215 #[.val (.int p0), .val (.ref b56'), .val (.int (12 : Int32)), .val (.ref (A 12)), .val (.int (6 : Int32)), .unset] [(.int (6 : Int32))])) (fun _ k => XS.iload X94.here hx rfl (hb hby at_213) rfl k) ?_
    refine own_go (B := T94.setTop (mkF m 216 #[.val (.int p0), .val (.ref b56'), .val (.int (12 : Int32)), .val (.ref (A 12)), .val (.int (6 : Int32)), .unset] [(.int (5 : Int32)), (.int (6 : Int32))])) (fun _ k => XT.iconstV X94.here hx rfl (5 : Int32) (hb hby at_215) rfl k) ?_
    refine own_go (B := T94.setTop (mkF m 223 #[.val (.int p0), .val (.ref b56'), .val (.int (12 : Int32)), .val (.ref (A 12)), .val (.int (6 : Int32)), .unset] [])) (fun _ k => XS.icmpYes X94.here hx rfl (pc0 := 216) (pc' := 223) rfl (hb hby at_216) rfl (by decide) (by decide) (by decide) k) ?_
    refine own_go (B := T94.setTop (mkF m 224 #[.val (.int p0), .val (.ref b56'), .val (.int (12 : Int32)), .val (.ref (A 12)), .val (.int (6 : Int32)), .unset] [(.int (0 : Int32))])) (fun _ k => XT.iconstV X94.here hx rfl (0 : Int32) (hb hby at_223) rfl k) ?_
    refine own_go (B := T94.setTop (mkF m 226 #[.val (.int p0), .val (.ref b56'), .val (.int (12 : Int32)), .val (.ref (A 12)), .val (.int (6 : Int32)), .val (.int (0 : Int32))] [])) (fun _ k => XS.istore X94.here hx rfl (hb hby at_224) rfl (l' := #[.val (.int p0), .val (.ref b56'), .val (.int (12 : Int32)), .val (.ref (A 12)), .val (.int (6 : Int32)), .val (.int (0 : Int32))]) rfl k) ?_
    refine own_go (B := T94.setTop (mkF m 227 #[.val (.int p0), .val (.ref b56'), .val (.int (12 : Int32)), .val (.ref (A 12)), .val (.int (6 : Int32)), .val (.int (0 : Int32))] [(.ref (A 12))])) (fun _ k => XS.aloadN X94.here hx rfl (hb hby at_226) rfl rfl k) ?_
    obtain ⟨cq95, kq95, q95a, q95b, q95c⟩ := isOf hZ e94 (E_EQUAL.ext x56')
    obtain ⟨_, _, ⟨T95, L95, k95, n95⟩, -, X95, ⟨Lc95, hQ95, l95, y95, z95⟩, st95⟩ := X94.virtualBack hx (y := (⟨"com/example/kilnbyte/kilnbyte/tree/Operator", "isBitwise", "()Z"⟩ : MethodName)) (z := (⟨"com/example/kilnbyte/kilnbyte/tree/Operator", "isBitwise", "()Z"⟩ : MethodName)) hown (mvT hZ (hw _ (List.mem_of_getElem? (i := 66) rfl))) (mvT hZ (hw _ (List.mem_of_getElem? (i := 67) rfl))) (notFace_of_selects (args := #[]) (mvT hZ (hw _ (List.mem_of_getElem? (i := 69) rfl)))) (mvT hZ (hw _ (List.mem_of_getElem? (i := 69) rfl))) (mvT hZ (hw _ (List.mem_of_getElem? (i := 68) rfl))) (by decide) (own_back (W := 0) (rm2_12 l Z a0 hw []  A hW h56' x56' ) hZ (hw _ (List.mem_of_getElem? (i := 70) rfl)) (hw _ (List.mem_of_getElem? (i := 3) rfl)) (by decide) (by decide)) q95a q95c (g := (mkF m 227 #[.val (.int p0), .val (.ref b56'), .val (.int (12 : Int32)), .val (.ref (A 12)), .val (.int (6 : Int32)), .val (.int (0 : Int32))] [(.ref (A 12))])) rfl (by rw [hml]; rfl) (Steps.refl _) (argsL := []) (rest := []) (lenOf pd_1 rfl) rfl (by show 2 * 0 + _ ≤ _; exact Nat.le_of_eq rfl) (hb hby at_227) (fun _ _ => ⟨rfl, e94, (by decide : 1 + 0 ≤ _), (by decide : 27 + 0 ≤ _)⟩)
    dsimp only [Pt.U, Pt.locs, Pt.cells, Pt.slots] at X95 l95 y95 z95 st95 hQ95
    subst l95 y95 z95
    obtain ⟨rfl, N95q, e95⟩ := hQ95
    have N95 := Fr.app N94 N95q
    refine own_go (B := T95.setTop (mkF m 230 #[.val (.int p0), .val (.ref b56'), .val (.int (12 : Int32)), .val (.ref (A 12)), .val (.int (6 : Int32)), .val (.int (0 : Int32))] [(.int (0 : Int32))])) (fun _ k => st95.trans k) ?_
    refine own_go (B := T95.setTop (mkF m 232 #[.val (.int p0), .val (.ref b56'), .val (.int (12 : Int32)), .val (.ref (A 12)), .val (.int (6 : Int32)), .val (.int (0 : Int32))] [(.int (0 : Int32)), (.int (0 : Int32))])) (fun _ k => XS.iload X95.here hx rfl (hb hby at_230) rfl k) ?_
    refine own_go (B := T95.setTop (mkF m 235 #[.val (.int p0), .val (.ref b56'), .val (.int (12 : Int32)), .val (.ref (A 12)), .val (.int (6 : Int32)), .val (.int (0 : Int32))] [])) (fun _ k => XS.icmpNo X95.here hx rfl (hb hby at_232) rfl (by decide) k) ?_
    refine own_go (B := T95.setTop (mkF m 236 #[.val (.int p0), .val (.ref b56'), .val (.int (12 : Int32)), .val (.ref (A 12)), .val (.int (6 : Int32)), .val (.int (0 : Int32))] [(.int (1 : Int32))])) (fun _ k => XT.iconstV X95.here hx rfl (1 : Int32) (hb hby at_235) rfl k) ?_
    refine own_go (B := T95.setTop (mkF m 240 #[.val (.int p0), .val (.ref b56'), .val (.int (12 : Int32)), .val (.ref (A 12)), .val (.int (6 : Int32)), .val (.int (0 : Int32))] [(.int (1 : Int32))])) (fun _ k => XS.goto X95.here hx rfl (pc0 := 236) (pc' := 240) rfl (hb hby at_236) (by decide) (by decide) k) ?_
    exact own_ret X95 hx (t := .boolean) hrt rfl (Or.inl ⟨rfl, by simp, _, rfl⟩) (hb hby at_240) hlk ⟨rfl, N95⟩ (by decide) (by decide)
  · refine own_go (B := T56'.setTop (mkF m 198 #[.val (.int p0), .val (.ref b56'), .val (.int (13 : Int32)), .unset, .unset, .unset] [(.ref b56')])) (fun _ k => XS.aloadN X56'.here hx rfl (hb hby at_197) rfl rfl k) ?_
    refine own_go (B := T56'.setTop (mkF m 199 #[.val (.int p0), .val (.ref b56'), .val (.int (13 : Int32)), .unset, .unset, .unset] [(.int (13 : Int32)), (.ref b56')])) (fun _ k => XS.iloadN X56'.here hx rfl (hb hby at_198) rfl k) ?_
    obtain ⟨cl96, Ar96, q96a, q96b, q96c, q96d, q96e⟩ := id V56'
    have i96 := inb_of (j := (13 : Int32)) q96b ⟨by decide, by decide⟩
    refine own_go (B := T56'.setTop (mkF m 200 #[.val (.int p0), .val (.ref b56'), .val (.int (13 : Int32)), .unset, .unset, .unset] [(.ref (A 13))])) (fun _ k => X56'.aaload hx (j := (13 : Int32)) (v := (.ref (A 13))) (by rw [e56']; exact Ar96.1) (State.isArrayOf_alike hZ.alike Ar96.2.1) rfl Ar96.2.2 i96 (Has.at q96d i96 rfl) (g := (mkF m 199 #[.val (.int p0), .val (.ref b56'), .val (.int (13 : Int32)), .unset, .unset, .unset] [(.int (13 : Int32)), (.ref b56')])) rfl rfl (hb hby at_199) _ k) ?_
    refine own_go (B := T56'.setTop (mkF m 201 #[.val (.int p0), .val (.ref b56'), .val (.int (13 : Int32)), .val (.ref (A 13)), .unset, .unset] [])) (fun _ k => XS.astoreN X56'.here hx rfl (hb hby at_200) rfl rfl (l' := #[.val (.int p0), .val (.ref b56'), .val (.int (13 : Int32)), .val (.ref (A 13)), .unset, .unset]) rfl k) ?_
    refine own_go (B := T56'.setTop (mkF m 202 #[.val (.int p0), .val (.ref b56'), .val (.int (13 : Int32)), .val (.ref (A 13)), .unset, .unset] [(.ref (A 13))])) (fun _ k => XS.aloadN X56'.here hx rfl (hb hby at_201) rfl rfl k) ?_
    obtain ⟨cq97, kq97, q97a, q97b, q97c⟩ := isOf hZ e56' (E_NOT_EQUAL.ext x56')
    obtain ⟨_, _, ⟨T97, L97, k97, n97⟩, -, X97, ⟨Lc97, hQ97, l97, y97, z97⟩, st97⟩ := X56'.virtualBack hx (y := (⟨"com/example/kilnbyte/kilnbyte/tree/Operator", "precedence", "()I"⟩ : MethodName)) (z := (⟨"com/example/kilnbyte/kilnbyte/tree/Operator", "precedence", "()I"⟩ : MethodName)) hown (mvT hZ (hw _ (List.mem_of_getElem? (i := 59) rfl))) (mvT hZ (hw _ (List.mem_of_getElem? (i := 60) rfl))) (notFace_of_selects (args := #[]) (mvT hZ (hw _ (List.mem_of_getElem? (i := 62) rfl)))) (mvT hZ (hw _ (List.mem_of_getElem? (i := 62) rfl))) (mvT hZ (hw _ (List.mem_of_getElem? (i := 61) rfl))) (by decide) (own_back (W := 0) (rm1_13 l Z a0 hw []  A hW h56' x56' ) hZ (hw _ (List.mem_of_getElem? (i := 63) rfl)) (hw _ (List.mem_of_getElem? (i := 3) rfl)) (by decide) (by decide)) q97a q97c (g := (mkF m 202 #[.val (.int p0), .val (.ref b56'), .val (.int (13 : Int32)), .val (.ref (A 13)), .unset, .unset] [(.ref (A 13))])) rfl (by rw [hml]; rfl) (Steps.refl _) (argsL := []) (rest := []) (lenOf pd_0 rfl) rfl (by show 2 * 0 + _ ≤ _; exact Nat.le_of_eq rfl) (hb hby at_202) (fun _ _ => ⟨rfl, e56', (by decide : 1 + 0 ≤ _), (by decide : 27 + 0 ≤ _)⟩)
    dsimp only [Pt.U, Pt.locs, Pt.cells, Pt.slots] at X97 l97 y97 z97 st97 hQ97
    subst l97 y97 z97
    obtain ⟨rfl, N97q, e97⟩ := hQ97
    have N97 := Fr.app N56' N97q
    refine own_go (B := T97.setTop (mkF m 205 #[.val (.int p0), .val (.ref b56'), .val (.int (13 : Int32)), .val (.ref (A 13)), .unset, .unset] [(.int (6 : Int32))])) (fun _ k => st97.trans k) ?_
    refine own_go (B := T97.setTop (mkF m 207 #[.val (.int p0), .val (.ref b56'), .val (.int (13 : Int32)), .val (.ref (A 13)), .val (.int (6 : Int32)), .unset] [])) (fun _ k => XS.istore X97.here hx rfl (hb hby at_205) rfl (l' := #[.val (.int p0), .val (.ref b56'), .val (.int (13 : Int32)), .val (.ref (A 13)), .val (.int (6 : Int32)), .unset]) rfl k) ?_
    refine own_go (B := T97.setTop (mkF m 209 #[.val (.int p0), .val (.ref b56'), .val (.int (13 : Int32)), .val (.ref (A 13)), .val (.int (6 : Int32)), .unset] [(.int (6 : Int32))])) (fun _ k => XS.iload X97.here hx rfl (hb hby at_207) rfl k) ?_
    refine own_go (B := T97.setTop (mkF m 210 #[.val (.int p0), .val (.ref b56'), .val (.int (13 : Int32)), .val (.ref (A 13)), .val (.int (6 : Int32)), .unset] [(.int (3 : Int32)), (.int (6 : Int32))])) (fun _ k => XT.iconstV X97.here hx rfl (3 : Int32) (hb hby at_209) rfl k) ?_
    refine own_go (B := T97.setTop (mkF m 213 #[.val (.int p0), .val (.ref b56'), .val (.int (13 : Int32)), .val (.ref (A 13)), .val (.int (6 : Int32)), .unset] [])) (fun _ k => XS.icmpNo X97.here hx rfl (hb hby at_210) rfl (by decide) k) ?_
    refine own_go (B := T97.setTop (mkF m 215 #[.val (.int p0), .val (.ref b56'), .val (.int (13 : Int32)), .val (.ref (A 13)), .val (.int (6 : Int32)), .unset] [(.int (6 : Int32))])) (fun _ k => XS.iload X97.here hx rfl (hb hby at_213) rfl k) ?_
    refine own_go (B := T97.setTop (mkF m 216 #[.val (.int p0), .val (.ref b56'), .val (.int (13 : Int32)), .val (.ref (A 13)), .val (.int (6 : Int32)), .unset] [(.int (5 : Int32)), (.int (6 : Int32))])) (fun _ k => XT.iconstV X97.here hx rfl (5 : Int32) (hb hby at_215) rfl k) ?_
    refine own_go (B := T97.setTop (mkF m 223 #[.val (.int p0), .val (.ref b56'), .val (.int (13 : Int32)), .val (.ref (A 13)), .val (.int (6 : Int32)), .unset] [])) (fun _ k => XS.icmpYes X97.here hx rfl (pc0 := 216) (pc' := 223) rfl (hb hby at_216) rfl (by decide) (by decide) (by decide) k) ?_
    refine own_go (B := T97.setTop (mkF m 224 #[.val (.int p0), .val (.ref b56'), .val (.int (13 : Int32)), .val (.ref (A 13)), .val (.int (6 : Int32)), .unset] [(.int (0 : Int32))])) (fun _ k => XT.iconstV X97.here hx rfl (0 : Int32) (hb hby at_223) rfl k) ?_
    refine own_go (B := T97.setTop (mkF m 226 #[.val (.int p0), .val (.ref b56'), .val (.int (13 : Int32)), .val (.ref (A 13)), .val (.int (6 : Int32)), .val (.int (0 : Int32))] [])) (fun _ k => XS.istore X97.here hx rfl (hb hby at_224) rfl (l' := #[.val (.int p0), .val (.ref b56'), .val (.int (13 : Int32)), .val (.ref (A 13)), .val (.int (6 : Int32)), .val (.int (0 : Int32))]) rfl k) ?_
    refine own_go (B := T97.setTop (mkF m 227 #[.val (.int p0), .val (.ref b56'), .val (.int (13 : Int32)), .val (.ref (A 13)), .val (.int (6 : Int32)), .val (.int (0 : Int32))] [(.ref (A 13))])) (fun _ k => XS.aloadN X97.here hx rfl (hb hby at_226) rfl rfl k) ?_
    obtain ⟨cq98, kq98, q98a, q98b, q98c⟩ := isOf hZ e97 (E_NOT_EQUAL.ext x56')
    obtain ⟨_, _, ⟨T98, L98, k98, n98⟩, -, X98, ⟨Lc98, hQ98, l98, y98, z98⟩, st98⟩ := X97.virtualBack hx (y := (⟨"com/example/kilnbyte/kilnbyte/tree/Operator", "isBitwise", "()Z"⟩ : MethodName)) (z := (⟨"com/example/kilnbyte/kilnbyte/tree/Operator", "isBitwise", "()Z"⟩ : MethodName)) hown (mvT hZ (hw _ (List.mem_of_getElem? (i := 66) rfl))) (mvT hZ (hw _ (List.mem_of_getElem? (i := 67) rfl))) (notFace_of_selects (args := #[]) (mvT hZ (hw _ (List.mem_of_getElem? (i := 69) rfl)))) (mvT hZ (hw _ (List.mem_of_getElem? (i := 69) rfl))) (mvT hZ (hw _ (List.mem_of_getElem? (i := 68) rfl))) (by decide) (own_back (W := 0) (rm2_13 l Z a0 hw []  A hW h56' x56' ) hZ (hw _ (List.mem_of_getElem? (i := 70) rfl)) (hw _ (List.mem_of_getElem? (i := 3) rfl)) (by decide) (by decide)) q98a q98c (g := (mkF m 227 #[.val (.int p0), .val (.ref b56'), .val (.int (13 : Int32)), .val (.ref (A 13)), .val (.int (6 : Int32)), .val (.int (0 : Int32))] [(.ref (A 13))])) rfl (by rw [hml]; rfl) (Steps.refl _) (argsL := []) (rest := []) (lenOf pd_1 rfl) rfl (by show 2 * 0 + _ ≤ _; exact Nat.le_of_eq rfl) (hb hby at_227) (fun _ _ => ⟨rfl, e97, (by decide : 1 + 0 ≤ _), (by decide : 27 + 0 ≤ _)⟩)
    dsimp only [Pt.U, Pt.locs, Pt.cells, Pt.slots] at X98 l98 y98 z98 st98 hQ98
    subst l98 y98 z98
    obtain ⟨rfl, N98q, e98⟩ := hQ98
    have N98 := Fr.app N97 N98q
    refine own_go (B := T98.setTop (mkF m 230 #[.val (.int p0), .val (.ref b56'), .val (.int (13 : Int32)), .val (.ref (A 13)), .val (.int (6 : Int32)), .val (.int (0 : Int32))] [(.int (0 : Int32))])) (fun _ k => st98.trans k) ?_
    refine own_go (B := T98.setTop (mkF m 232 #[.val (.int p0), .val (.ref b56'), .val (.int (13 : Int32)), .val (.ref (A 13)), .val (.int (6 : Int32)), .val (.int (0 : Int32))] [(.int (0 : Int32)), (.int (0 : Int32))])) (fun _ k => XS.iload X98.here hx rfl (hb hby at_230) rfl k) ?_
    refine own_go (B := T98.setTop (mkF m 235 #[.val (.int p0), .val (.ref b56'), .val (.int (13 : Int32)), .val (.ref (A 13)), .val (.int (6 : Int32)), .val (.int (0 : Int32))] [])) (fun _ k => XS.icmpNo X98.here hx rfl (hb hby at_232) rfl (by decide) k) ?_
    refine own_go (B := T98.setTop (mkF m 236 #[.val (.int p0), .val (.ref b56'), .val (.int (13 : Int32)), .val (.ref (A 13)), .val (.int (6 : Int32)), .val (.int (0 : Int32))] [(.int (1 : Int32))])) (fun _ k => XT.iconstV X98.here hx rfl (1 : Int32) (hb hby at_235) rfl k) ?_
    refine own_go (B := T98.setTop (mkF m 240 #[.val (.int p0), .val (.ref b56'), .val (.int (13 : Int32)), .val (.ref (A 13)), .val (.int (6 : Int32)), .val (.int (0 : Int32))] [(.int (1 : Int32))])) (fun _ k => XS.goto X98.here hx rfl (pc0 := 236) (pc' := 240) rfl (hb hby at_236) (by decide) (by decide) k) ?_
    exact own_ret X98 hx (t := .boolean) hrt rfl (Or.inl ⟨rfl, by simp, _, rfl⟩) (hb hby at_240) hlk ⟨rfl, N98⟩ (by decide) (by decide)
  · refine own_go (B := T56'.setTop (mkF m 198 #[.val (.int p0), .val (.ref b56'), .val (.int (14 : Int32)), .unset, .unset, .unset] [(.ref b56')])) (fun _ k => XS.aloadN X56'.here hx rfl (hb hby at_197) rfl rfl k) ?_
    refine own_go (B := T56'.setTop (mkF m 199 #[.val (.int p0), .val (.ref b56'), .val (.int (14 : Int32)), .unset, .unset, .unset] [(.int (14 : Int32)), (.ref b56')])) (fun _ k => XS.iloadN X56'.here hx rfl (hb hby at_198) rfl k) ?_
    obtain ⟨cl99, Ar99, q99a, q99b, q99c, q99d, q99e⟩ := id V56'
    have i99 := inb_of (j := (14 : Int32)) q99b ⟨by decide, by decide⟩
    refine own_go (B := T56'.setTop (mkF m 200 #[.val (.int p0), .val (.ref b56'), .val (.int (14 : Int32)), .unset, .unset, .unset] [(.ref (A 14))])) (fun _ k => X56'.aaload hx (j := (14 : Int32)) (v := (.ref (A 14))) (by rw [e56']; exact Ar99.1) (State.isArrayOf_alike hZ.alike Ar99.2.1) rfl Ar99.2.2 i99 (Has.at q99d i99 rfl) (g := (mkF m 199 #[.val (.int p0), .val (.ref b56'), .val (.int (14 : Int32)), .unset, .unset, .unset] [(.int (14 : Int32)), (.ref b56')])) rfl rfl (hb hby at_199) _ k) ?_
    refine own_go (B := T56'.setTop (mkF m 201 #[.val (.int p0), .val (.ref b56'), .val (.int (14 : Int32)), .val (.ref (A 14)), .unset, .unset] [])) (fun _ k => XS.astoreN X56'.here hx rfl (hb hby at_200) rfl rfl (l' := #[.val (.int p0), .val (.ref b56'), .val (.int (14 : Int32)), .val (.ref (A 14)), .unset, .unset]) rfl k) ?_
    refine own_go (B := T56'.setTop (mkF m 202 #[.val (.int p0), .val (.ref b56'), .val (.int (14 : Int32)), .val (.ref (A 14)), .unset, .unset] [(.ref (A 14))])) (fun _ k => XS.aloadN X56'.here hx rfl (hb hby at_201) rfl rfl k) ?_
    obtain ⟨cq100, kq100, q100a, q100b, q100c⟩ := isOf hZ e56' (E_AND.ext x56')
    obtain ⟨_, _, ⟨T100, L100, k100, n100⟩, -, X100, ⟨Lc100, hQ100, l100, y100, z100⟩, st100⟩ := X56'.virtualBack hx (y := (⟨"com/example/kilnbyte/kilnbyte/tree/Operator", "precedence", "()I"⟩ : MethodName)) (z := (⟨"com/example/kilnbyte/kilnbyte/tree/Operator", "precedence", "()I"⟩ : MethodName)) hown (mvT hZ (hw _ (List.mem_of_getElem? (i := 59) rfl))) (mvT hZ (hw _ (List.mem_of_getElem? (i := 60) rfl))) (notFace_of_selects (args := #[]) (mvT hZ (hw _ (List.mem_of_getElem? (i := 62) rfl)))) (mvT hZ (hw _ (List.mem_of_getElem? (i := 62) rfl))) (mvT hZ (hw _ (List.mem_of_getElem? (i := 61) rfl))) (by decide) (own_back (W := 0) (rm1_14 l Z a0 hw []  A hW h56' x56' ) hZ (hw _ (List.mem_of_getElem? (i := 63) rfl)) (hw _ (List.mem_of_getElem? (i := 3) rfl)) (by decide) (by decide)) q100a q100c (g := (mkF m 202 #[.val (.int p0), .val (.ref b56'), .val (.int (14 : Int32)), .val (.ref (A 14)), .unset, .unset] [(.ref (A 14))])) rfl (by rw [hml]; rfl) (Steps.refl _) (argsL := []) (rest := []) (lenOf pd_0 rfl) rfl (by show 2 * 0 + _ ≤ _; exact Nat.le_of_eq rfl) (hb hby at_202) (fun _ _ => ⟨rfl, e56', (by decide : 1 + 0 ≤ _), (by decide : 27 + 0 ≤ _)⟩)
    dsimp only [Pt.U, Pt.locs, Pt.cells, Pt.slots] at X100 l100 y100 z100 st100 hQ100
    subst l100 y100 z100
    obtain ⟨rfl, N100q, e100⟩ := hQ100
    have N100 := Fr.app N56' N100q
    refine own_go (B := T100.setTop (mkF m 205 #[.val (.int p0), .val (.ref b56'), .val (.int (14 : Int32)), .val (.ref (A 14)), .unset, .unset] [(.int (5 : Int32))])) (fun _ k => st100.trans k) ?_
    refine own_go (B := T100.setTop (mkF m 207 #[.val (.int p0), .val (.ref b56'), .val (.int (14 : Int32)), .val (.ref (A 14)), .val (.int (5 : Int32)), .unset] [])) (fun _ k => XS.istore X100.here hx rfl (hb hby at_205) rfl (l' := #[.val (.int p0), .val (.ref b56'), .val (.int (14 : Int32)), .val (.ref (A 14)), .val (.int (5 : Int32)), .unset]) rfl k) ?_
    refine own_go (B := T100.setTop (mkF m 209 #[.val (.int p0), .val (.ref b56'), .val (.int (14 : Int32)), .val (.ref (A 14)), .val (.int (5 : Int32)), .unset] [(.int (5 : Int32))])) (fun _ k => XS.iload X100.here hx rfl (hb hby at_207) rfl k) ?_
    refine own_go (B := T100.setTop (mkF m 210 #[.val (.int p0), .val (.ref b56'), .val (.int (14 : Int32)), .val (.ref (A 14)), .val (.int (5 : Int32)), .unset] [(.int (3 : Int32)), (.int (5 : Int32))])) (fun _ k => XT.iconstV X100.here hx rfl (3 : Int32) (hb hby at_209) rfl k) ?_
    refine own_go (B := T100.setTop (mkF m 213 #[.val (.int p0), .val (.ref b56'), .val (.int (14 : Int32)), .val (.ref (A 14)), .val (.int (5 : Int32)), .unset] [])) (fun _ k => XS.icmpNo X100.here hx rfl (hb hby at_210) rfl (by decide) k) ?_
    refine own_go (B := T100.setTop (mkF m 215 #[.val (.int p0), .val (.ref b56'), .val (.int (14 : Int32)), .val (.ref (A 14)), .val (.int (5 : Int32)), .unset] [(.int (5 : Int32))])) (fun _ k => XS.iload X100.here hx rfl (hb hby at_213) rfl k) ?_
    refine own_go (B := T100.setTop (mkF m 216 #[.val (.int p0), .val (.ref b56'), .val (.int (14 : Int32)), .val (.ref (A 14)), .val (.int (5 : Int32)), .unset] [(.int (5 : Int32)), (.int (5 : Int32))])) (fun _ k => XT.iconstV X100.here hx rfl (5 : Int32) (hb hby at_215) rfl k) ?_
    refine own_go (B := T100.setTop (mkF m 219 #[.val (.int p0), .val (.ref b56'), .val (.int (14 : Int32)), .val (.ref (A 14)), .val (.int (5 : Int32)), .unset] [])) (fun _ k => XS.icmpNo X100.here hx rfl (hb hby at_216) rfl (by decide) k) ?_
    refine own_go (B := T100.setTop (mkF m 220 #[.val (.int p0), .val (.ref b56'), .val (.int (14 : Int32)), .val (.ref (A 14)), .val (.int (5 : Int32)), .unset] [(.int (1 : Int32))])) (fun _ k => XT.iconstV X100.here hx rfl (1 : Int32) (hb hby at_219) rfl k) ?_
    refine own_go (B := T100.setTop (mkF m 224 #[.val (.int p0), .val (.ref b56'), .val (.int (14 : Int32)), .val (.ref (A 14)), .val (.int (5 : Int32)), .unset] [(.int (1 : Int32))])) (fun _ k => XS.goto X100.here hx rfl (pc0 := 220) (pc' := 224) rfl (hb hby at_220) (by decide) (by decide) k) ?_
    refine own_go (B := T100.setTop (mkF m 226 #[.val (.int p0), .val (.ref b56'), .val (.int (14 : Int32)), .val (.ref (A 14)), .val (.int (5 : Int32)), .val (.int (1 : Int32))] [])) (fun _ k => XS.istore X100.here hx rfl (hb hby at_224) rfl (l' := #[.val (.int p0), .val (.ref b56'), .val (.int (14 : Int32)), .val (.ref (A 14)), .val (.int (5 : Int32)), .val (.int (1 : Int32))]) rfl k) ?_
    refine own_go (B := T100.setTop (mkF m 227 #[.val (.int p0), .val (.ref b56'), .val (.int (14 : Int32)), .val (.ref (A 14)), .val (.int (5 : Int32)), .val (.int (1 : Int32))] [(.ref (A 14))])) (fun _ k => XS.aloadN X100.here hx rfl (hb hby at_226) rfl rfl k) ?_
    obtain ⟨cq101, kq101, q101a, q101b, q101c⟩ := isOf hZ e100 (E_AND.ext x56')
    obtain ⟨_, _, ⟨T101, L101, k101, n101⟩, -, X101, ⟨Lc101, hQ101, l101, y101, z101⟩, st101⟩ := X100.virtualBack hx (y := (⟨"com/example/kilnbyte/kilnbyte/tree/Operator", "isBitwise", "()Z"⟩ : MethodName)) (z := (⟨"com/example/kilnbyte/kilnbyte/tree/Operator", "isBitwise", "()Z"⟩ : MethodName)) hown (mvT hZ (hw _ (List.mem_of_getElem? (i := 66) rfl))) (mvT hZ (hw _ (List.mem_of_getElem? (i := 67) rfl))) (notFace_of_selects (args := #[]) (mvT hZ (hw _ (List.mem_of_getElem? (i := 69) rfl)))) (mvT hZ (hw _ (List.mem_of_getElem? (i := 69) rfl))) (mvT hZ (hw _ (List.mem_of_getElem? (i := 68) rfl))) (by decide) (own_back (W := 0) (rm2_14 l Z a0 hw []  A hW h56' x56' ) hZ (hw _ (List.mem_of_getElem? (i := 70) rfl)) (hw _ (List.mem_of_getElem? (i := 3) rfl)) (by decide) (by decide)) q101a q101c (g := (mkF m 227 #[.val (.int p0), .val (.ref b56'), .val (.int (14 : Int32)), .val (.ref (A 14)), .val (.int (5 : Int32)), .val (.int (1 : Int32))] [(.ref (A 14))])) rfl (by rw [hml]; rfl) (Steps.refl _) (argsL := []) (rest := []) (lenOf pd_1 rfl) rfl (by show 2 * 0 + _ ≤ _; exact Nat.le_of_eq rfl) (hb hby at_227) (fun _ _ => ⟨rfl, e100, (by decide : 1 + 0 ≤ _), (by decide : 27 + 0 ≤ _)⟩)
    dsimp only [Pt.U, Pt.locs, Pt.cells, Pt.slots] at X101 l101 y101 z101 st101 hQ101
    subst l101 y101 z101
    obtain ⟨rfl, N101q, e101⟩ := hQ101
    have N101 := Fr.app N100 N101q
    refine own_go (B := T101.setTop (mkF m 230 #[.val (.int p0), .val (.ref b56'), .val (.int (14 : Int32)), .val (.ref (A 14)), .val (.int (5 : Int32)), .val (.int (1 : Int32))] [(.int (1 : Int32))])) (fun _ k => st101.trans k) ?_
    refine own_go (B := T101.setTop (mkF m 232 #[.val (.int p0), .val (.ref b56'), .val (.int (14 : Int32)), .val (.ref (A 14)), .val (.int (5 : Int32)), .val (.int (1 : Int32))] [(.int (1 : Int32)), (.int (1 : Int32))])) (fun _ k => XS.iload X101.here hx rfl (hb hby at_230) rfl k) ?_
    refine own_go (B := T101.setTop (mkF m 235 #[.val (.int p0), .val (.ref b56'), .val (.int (14 : Int32)), .val (.ref (A 14)), .val (.int (5 : Int32)), .val (.int (1 : Int32))] [])) (fun _ k => XS.icmpNo X101.here hx rfl (hb hby at_232) rfl (by decide) k) ?_
    refine own_go (B := T101.setTop (mkF m 236 #[.val (.int p0), .val (.ref b56'), .val (.int (14 : Int32)), .val (.ref (A 14)), .val (.int (5 : Int32)), .val (.int (1 : Int32))] [(.int (1 : Int32))])) (fun _ k => XT.iconstV X101.here hx rfl (1 : Int32) (hb hby at_235) rfl k) ?_
    refine own_go (B := T101.setTop (mkF m 240 #[.val (.int p0), .val (.ref b56'), .val (.int (14 : Int32)), .val (.ref (A 14)), .val (.int (5 : Int32)), .val (.int (1 : Int32))] [(.int (1 : Int32))])) (fun _ k => XS.goto X101.here hx rfl (pc0 := 236) (pc' := 240) rfl (hb hby at_236) (by decide) (by decide) k) ?_
    exact own_ret X101 hx (t := .boolean) hrt rfl (Or.inl ⟨rfl, by simp, _, rfl⟩) (hb hby at_240) hlk ⟨rfl, N101⟩ (by decide) (by decide)
  · refine own_go (B := T56'.setTop (mkF m 198 #[.val (.int p0), .val (.ref b56'), .val (.int (15 : Int32)), .unset, .unset, .unset] [(.ref b56')])) (fun _ k => XS.aloadN X56'.here hx rfl (hb hby at_197) rfl rfl k) ?_
    refine own_go (B := T56'.setTop (mkF m 199 #[.val (.int p0), .val (.ref b56'), .val (.int (15 : Int32)), .unset, .unset, .unset] [(.int (15 : Int32)), (.ref b56')])) (fun _ k => XS.iloadN X56'.here hx rfl (hb hby at_198) rfl k) ?_
    obtain ⟨cl102, Ar102, q102a, q102b, q102c, q102d, q102e⟩ := id V56'
    have i102 := inb_of (j := (15 : Int32)) q102b ⟨by decide, by decide⟩
    refine own_go (B := T56'.setTop (mkF m 200 #[.val (.int p0), .val (.ref b56'), .val (.int (15 : Int32)), .unset, .unset, .unset] [(.ref (A 15))])) (fun _ k => X56'.aaload hx (j := (15 : Int32)) (v := (.ref (A 15))) (by rw [e56']; exact Ar102.1) (State.isArrayOf_alike hZ.alike Ar102.2.1) rfl Ar102.2.2 i102 (Has.at q102d i102 rfl) (g := (mkF m 199 #[.val (.int p0), .val (.ref b56'), .val (.int (15 : Int32)), .unset, .unset, .unset] [(.int (15 : Int32)), (.ref b56')])) rfl rfl (hb hby at_199) _ k) ?_
    refine own_go (B := T56'.setTop (mkF m 201 #[.val (.int p0), .val (.ref b56'), .val (.int (15 : Int32)), .val (.ref (A 15)), .unset, .unset] [])) (fun _ k => XS.astoreN X56'.here hx rfl (hb hby at_200) rfl rfl (l' := #[.val (.int p0), .val (.ref b56'), .val (.int (15 : Int32)), .val (.ref (A 15)), .unset, .unset]) rfl k) ?_
    refine own_go (B := T56'.setTop (mkF m 202 #[.val (.int p0), .val (.ref b56'), .val (.int (15 : Int32)), .val (.ref (A 15)), .unset, .unset] [(.ref (A 15))])) (fun _ k => XS.aloadN X56'.here hx rfl (hb hby at_201) rfl rfl k) ?_
    obtain ⟨cq103, kq103, q103a, q103b, q103c⟩ := isOf hZ e56' (E_XOR.ext x56')
    obtain ⟨_, _, ⟨T103, L103, k103, n103⟩, -, X103, ⟨Lc103, hQ103, l103, y103, z103⟩, st103⟩ := X56'.virtualBack hx (y := (⟨"com/example/kilnbyte/kilnbyte/tree/Operator", "precedence", "()I"⟩ : MethodName)) (z := (⟨"com/example/kilnbyte/kilnbyte/tree/Operator", "precedence", "()I"⟩ : MethodName)) hown (mvT hZ (hw _ (List.mem_of_getElem? (i := 59) rfl))) (mvT hZ (hw _ (List.mem_of_getElem? (i := 60) rfl))) (notFace_of_selects (args := #[]) (mvT hZ (hw _ (List.mem_of_getElem? (i := 62) rfl)))) (mvT hZ (hw _ (List.mem_of_getElem? (i := 62) rfl))) (mvT hZ (hw _ (List.mem_of_getElem? (i := 61) rfl))) (by decide) (own_back (W := 0) (rm1_15 l Z a0 hw []  A hW h56' x56' ) hZ (hw _ (List.mem_of_getElem? (i := 63) rfl)) (hw _ (List.mem_of_getElem? (i := 3) rfl)) (by decide) (by decide)) q103a q103c (g := (mkF m 202 #[.val (.int p0), .val (.ref b56'), .val (.int (15 : Int32)), .val (.ref (A 15)), .unset, .unset] [(.ref (A 15))])) rfl (by rw [hml]; rfl) (Steps.refl _) (argsL := []) (rest := []) (lenOf pd_0 rfl) rfl (by show 2 * 0 + _ ≤ _; exact Nat.le_of_eq rfl) (hb hby at_202) (fun _ _ => ⟨rfl, e56', (by decide : 1 + 0 ≤ _), (by decide : 27 + 0 ≤ _)⟩)
    dsimp only [Pt.U, Pt.locs, Pt.cells, Pt.slots] at X103 l103 y103 z103 st103 hQ103
    subst l103 y103 z103
    obtain ⟨rfl, N103q, e103⟩ := hQ103
    have N103 := Fr.app N56' N103q
    refine own_go (B := T103.setTop (mkF m 205 #[.val (.int p0), .val (.ref b56'), .val (.int (15 : Int32)), .val (.ref (A 15)), .unset, .unset] [(.int (4 : Int32))])) (fun _ k => st103.trans k) ?_
    refine own_go (B := T103.setTop (mkF m 207 #[.val (.int p0), .val (.ref b56'), .val (.int (15 : Int32)), .val (.ref (A 15)), .val (.int (4 : Int32)), .unset] [])) (fun _ k => XS.istore X103.here hx rfl (hb hby at_205) rfl (l' := #[.val (.int p0), .val (.ref b56'), .val (.int (15 : Int32)), .val (.ref (A 15)), .val (.int (4 : Int32)), .unset]) rfl k) ?_
    refine own_go (B := T103.setTop (mkF m 209 #[.val (.int p0), .val (.ref b56'), .val (.int (15 : Int32)), .val (.ref (A 15)), .val (.int (4 : Int32)), .unset] [(.int (4 : Int32))])) (fun _ k => XS.iload X103.here hx rfl (hb hby at_207) rfl k) ?_
    refine own_go (B := T103.setTop (mkF m 210 #[.val (.int p0), .val (.ref b56'), .val (.int (15 : Int32)), .val (.ref (A 15)), .val (.int (4 : Int32)), .unset] [(.int (3 : Int32)), (.int (4 : Int32))])) (fun _ k => XT.iconstV X103.here hx rfl (3 : Int32) (hb hby at_209) rfl k) ?_
    refine own_go (B := T103.setTop (mkF m 213 #[.val (.int p0), .val (.ref b56'), .val (.int (15 : Int32)), .val (.ref (A 15)), .val (.int (4 : Int32)), .unset] [])) (fun _ k => XS.icmpNo X103.here hx rfl (hb hby at_210) rfl (by decide) k) ?_
    refine own_go (B := T103.setTop (mkF m 215 #[.val (.int p0), .val (.ref b56'), .val (.int (15 : Int32)), .val (.ref (A 15)), .val (.int (4 : Int32)), .unset] [(.int (4 : Int32))])) (fun _ k => XS.iload X103.here hx rfl (hb hby at_213) rfl k) ?_
    refine own_go (B := T103.setTop (mkF m 216 #[.val (.int p0), .val (.ref b56'), .val (.int (15 : Int32)), .val (.ref (A 15)), .val (.int (4 : Int32)), .unset] [(.int (5 : Int32)), (.int (4 : Int32))])) (fun _ k => XT.iconstV X103.here hx rfl (5 : Int32) (hb hby at_215) rfl k) ?_
    refine own_go (B := T103.setTop (mkF m 219 #[.val (.int p0), .val (.ref b56'), .val (.int (15 : Int32)), .val (.ref (A 15)), .val (.int (4 : Int32)), .unset] [])) (fun _ k => XS.icmpNo X103.here hx rfl (hb hby at_216) rfl (by decide) k) ?_
    refine own_go (B := T103.setTop (mkF m 220 #[.val (.int p0), .val (.ref b56'), .val (.int (15 : Int32)), .val (.ref (A 15)), .val (.int (4 : Int32)), .unset] [(.int (1 : Int32))])) (fun _ k => XT.iconstV X103.here hx rfl (1 : Int32) (hb hby at_219) rfl k) ?_
    refine own_go (B := T103.setTop (mkF m 224 #[.val (.int p0), .val (.ref b56'), .val (.int (15 : Int32)), .val (.ref (A 15)), .val (.int (4 : Int32)), .unset] [(.int (1 : Int32))])) (fun _ k => XS.goto X103.here hx rfl (pc0 := 220) (pc' := 224) rfl (hb hby at_220) (by decide) (by decide) k) ?_
    refine own_go (B := T103.setTop (mkF m 226 #[.val (.int p0), .val (.ref b56'), .val (.int (15 : Int32)), .val (.ref (A 15)), .val (.int (4 : Int32)), .val (.int (1 : Int32))] [])) (fun _ k => XS.istore X103.here hx rfl (hb hby at_224) rfl (l' := #[.val (.int p0), .val (.ref b56'), .val (.int (15 : Int32)), .val (.ref (A 15)), .val (.int (4 : Int32)), .val (.int (1 : Int32))]) rfl k) ?_
    refine own_go (B := T103.setTop (mkF m 227 #[.val (.int p0), .val (.ref b56'), .val (.int (15 : Int32)), .val (.ref (A 15)), .val (.int (4 : Int32)), .val (.int (1 : Int32))] [(.ref (A 15))])) (fun _ k => XS.aloadN X103.here hx rfl (hb hby at_226) rfl rfl k) ?_
    obtain ⟨cq104, kq104, q104a, q104b, q104c⟩ := isOf hZ e103 (E_XOR.ext x56')
    obtain ⟨_, _, ⟨T104, L104, k104, n104⟩, -, X104, ⟨Lc104, hQ104, l104, y104, z104⟩, st104⟩ := X103.virtualBack hx (y := (⟨"com/example/kilnbyte/kilnbyte/tree/Operator", "isBitwise", "()Z"⟩ : MethodName)) (z := (⟨"com/example/kilnbyte/kilnbyte/tree/Operator", "isBitwise", "()Z"⟩ : MethodName)) hown (mvT hZ (hw _ (List.mem_of_getElem? (i := 66) rfl))) (mvT hZ (hw _ (List.mem_of_getElem? (i := 67) rfl))) (notFace_of_selects (args := #[]) (mvT hZ (hw _ (List.mem_of_getElem? (i := 69) rfl)))) (mvT hZ (hw _ (List.mem_of_getElem? (i := 69) rfl))) (mvT hZ (hw _ (List.mem_of_getElem? (i := 68) rfl))) (by decide) (own_back (W := 0) (rm2_15 l Z a0 hw []  A hW h56' x56' ) hZ (hw _ (List.mem_of_getElem? (i := 70) rfl)) (hw _ (List.mem_of_getElem? (i := 3) rfl)) (by decide) (by decide)) q104a q104c (g := (mkF m 227 #[.val (.int p0), .val (.ref b56'), .val (.int (15 : Int32)), .val (.ref (A 15)), .val (.int (4 : Int32)), .val (.int (1 : Int32))] [(.ref (A 15))])) rfl (by rw [hml]; rfl) (Steps.refl _) (argsL := []) (rest := []) (lenOf pd_1 rfl) rfl (by show 2 * 0 + _ ≤ _; exact Nat.le_of_eq rfl) (hb hby at_227) (fun _ _ => ⟨rfl, e103, (by decide : 1 + 0 ≤ _), (by decide : 27 + 0 ≤ _)⟩)
    dsimp only [Pt.U, Pt.locs, Pt.cells, Pt.slots] at X104 l104 y104 z104 st104 hQ104
    subst l104 y104 z104
    obtain ⟨rfl, N104q, e104⟩ := hQ104
    have N104 := Fr.app N103 N104q
    refine own_go (B := T104.setTop (mkF m 230 #[.val (.int p0), .val (.ref b56'), .val (.int (15 : Int32)), .val (.ref (A 15)), .val (.int (4 : Int32)), .val (.int (1 : Int32))] [(.int (1 : Int32))])) (fun _ k => st104.trans k) ?_
    refine own_go (B := T104.setTop (mkF m 232 #[.val (.int p0), .val (.ref b56'), .val (.int (15 : Int32)), .val (.ref (A 15)), .val (.int (4 : Int32)), .val (.int (1 : Int32))] [(.int (1 : Int32)), (.int (1 : Int32))])) (fun _ k => XS.iload X104.here hx rfl (hb hby at_230) rfl k) ?_
    refine own_go (B := T104.setTop (mkF m 235 #[.val (.int p0), .val (.ref b56'), .val (.int (15 : Int32)), .val (.ref (A 15)), .val (.int (4 : Int32)), .val (.int (1 : Int32))] [])) (fun _ k => XS.icmpNo X104.here hx rfl (hb hby at_232) rfl (by decide) k) ?_
    refine own_go (B := T104.setTop (mkF m 236 #[.val (.int p0), .val (.ref b56'), .val (.int (15 : Int32)), .val (.ref (A 15)), .val (.int (4 : Int32)), .val (.int (1 : Int32))] [(.int (1 : Int32))])) (fun _ k => XT.iconstV X104.here hx rfl (1 : Int32) (hb hby at_235) rfl k) ?_
    refine own_go (B := T104.setTop (mkF m 240 #[.val (.int p0), .val (.ref b56'), .val (.int (15 : Int32)), .val (.ref (A 15)), .val (.int (4 : Int32)), .val (.int (1 : Int32))] [(.int (1 : Int32))])) (fun _ k => XS.goto X104.here hx rfl (pc0 := 236) (pc' := 240) rfl (hb hby at_236) (by decide) (by decide) k) ?_
    exact own_ret X104 hx (t := .boolean) hrt rfl (Or.inl ⟨rfl, by simp, _, rfl⟩) (hb hby at_240) hlk ⟨rfl, N104⟩ (by decide) (by decide)
  · refine own_go (B := T56'.setTop (mkF m 198 #[.val (.int p0), .val (.ref b56'), .val (.int (16 : Int32)), .unset, .unset, .unset] [(.ref b56')])) (fun _ k => XS.aloadN X56'.here hx rfl (hb hby at_197) rfl rfl k) ?_
    refine own_go (B := T56'.setTop (mkF m 199 #[.val (.int p0), .val (.ref b56'), .val (.int (16 : Int32)), .unset, .unset, .unset] [(.int (16 : Int32)), (.ref b56')])) (fun _ k => XS.iloadN X56'.here hx rfl (hb hby at_198) rfl k) ?_
    obtain ⟨cl105, Ar105, q105a, q105b, q105c, q105d, q105e⟩ := id V56'
    have i105 := inb_of (j := (16 : Int32)) q105b ⟨by decide, by decide⟩
    refine own_go (B := T56'.setTop (mkF m 200 #[.val (.int p0), .val (.ref b56'), .val (.int (16 : Int32)), .unset, .unset, .unset] [(.ref (A 16))])) (fun _ k => X56'.aaload hx (j := (16 : Int32)) (v := (.ref (A 16))) (by rw [e56']; exact Ar105.1) (State.isArrayOf_alike hZ.alike Ar105.2.1) rfl Ar105.2.2 i105 (Has.at q105d i105 rfl) (g := (mkF m 199 #[.val (.int p0), .val (.ref b56'), .val (.int (16 : Int32)), .unset, .unset, .unset] [(.int (16 : Int32)), (.ref b56')])) rfl rfl (hb hby at_199) _ k) ?_
    refine own_go (B := T56'.setTop (mkF m 201 #[.val (.int p0), .val (.ref b56'), .val (.int (16 : Int32)), .val (.ref (A 16)), .unset, .unset] [])) (fun _ k => XS.astoreN X56'.here hx rfl (hb hby at_200) rfl rfl (l' := #[.val (.int p0), .val (.ref b56'), .val (.int (16 : Int32)), .val (.ref (A 16)), .unset, .unset]) rfl k) ?_
    refine own_go (B := T56'.setTop (mkF m 202 #[.val (.int p0), .val (.ref b56'), .val (.int (16 : Int32)), .val (.ref (A 16)), .unset, .unset] [(.ref (A 16))])) (fun _ k => XS.aloadN X56'.here hx rfl (hb hby at_201) rfl rfl k) ?_
    obtain ⟨cq106, kq106, q106a, q106b, q106c⟩ := isOf hZ e56' (E_OR.ext x56')
    obtain ⟨_, _, ⟨T106, L106, k106, n106⟩, -, X106, ⟨Lc106, hQ106, l106, y106, z106⟩, st106⟩ := X56'.virtualBack hx (y := (⟨"com/example/kilnbyte/kilnbyte/tree/Operator", "precedence", "()I"⟩ : MethodName)) (z := (⟨"com/example/kilnbyte/kilnbyte/tree/Operator", "precedence", "()I"⟩ : MethodName)) hown (mvT hZ (hw _ (List.mem_of_getElem? (i := 59) rfl))) (mvT hZ (hw _ (List.mem_of_getElem? (i := 60) rfl))) (notFace_of_selects (args := #[]) (mvT hZ (hw _ (List.mem_of_getElem? (i := 62) rfl)))) (mvT hZ (hw _ (List.mem_of_getElem? (i := 62) rfl))) (mvT hZ (hw _ (List.mem_of_getElem? (i := 61) rfl))) (by decide) (own_back (W := 0) (rm1_16 l Z a0 hw []  A hW h56' x56' ) hZ (hw _ (List.mem_of_getElem? (i := 63) rfl)) (hw _ (List.mem_of_getElem? (i := 3) rfl)) (by decide) (by decide)) q106a q106c (g := (mkF m 202 #[.val (.int p0), .val (.ref b56'), .val (.int (16 : Int32)), .val (.ref (A 16)), .unset, .unset] [(.ref (A 16))])) rfl (by rw [hml]; rfl) (Steps.refl _) (argsL := []) (rest := []) (lenOf pd_0 rfl) rfl (by show 2 * 0 + _ ≤ _; exact Nat.le_of_eq rfl) (hb hby at_202) (fun _ _ => ⟨rfl, e56', (by decide : 1 + 0 ≤ _), (by decide : 27 + 0 ≤ _)⟩)
    dsimp only [Pt.U, Pt.locs, Pt.cells, Pt.slots] at X106 l106 y106 z106 st106 hQ106
    subst l106 y106 z106
    obtain ⟨rfl, N106q, e106⟩ := hQ106
    have N106 := Fr.app N56' N106q
    refine own_go (B := T106.setTop (mkF m 205 #[.val (.int p0), .val (.ref b56'), .val (.int (16 : Int32)), .val (.ref (A 16)), .unset, .unset] [(.int (3 : Int32))])) (fun _ k => st106.trans k) ?_
    refine own_go (B := T106.setTop (mkF m 207 #[.val (.int p0), .val (.ref b56'), .val (.int (16 : Int32)), .val (.ref (A 16)), .val (.int (3 : Int32)), .unset] [])) (fun _ k => XS.istore X106.here hx rfl (hb hby at_205) rfl (l' := #[.val (.int p0), .val (.ref b56'), .val (.int (16 : Int32)), .val (.ref (A 16)), .val (.int (3 : Int32)), .unset]) rfl k) ?_
    refine own_go (B := T106.setTop (mkF m 209 #[.val (.int p0), .val (.ref b56'), .val (.int (16 : Int32)), .val (.ref (A 16)), .val (.int (3 : Int32)), .unset] [(.int (3 : Int32))])) (fun _ k => XS.iload X106.here hx rfl (hb hby at_207) rfl k) ?_
    refine own_go (B := T106.setTop (mkF m 210 #[.val (.int p0), .val (.ref b56'), .val (.int (16 : Int32)), .val (.ref (A 16)), .val (.int (3 : Int32)), .unset] [(.int (3 : Int32)), (.int (3 : Int32))])) (fun _ k => XT.iconstV X106.here hx rfl (3 : Int32) (hb hby at_209) rfl k) ?_
    refine own_go (B := T106.setTop (mkF m 213 #[.val (.int p0), .val (.ref b56'), .val (.int (16 : Int32)), .val (.ref (A 16)), .val (.int (3 : Int32)), .unset] [])) (fun _ k => XS.icmpNo X106.here hx rfl (hb hby at_210) rfl (by decide) k) ?_
    refine own_go (B := T106.setTop (mkF m 215 #[.val (.int p0), .val (.ref b56'), .val (.int (16 : Int32)), .val (.ref (A 16)), .val (.int (3 : Int32)), .unset] [(.int (3 : Int32))])) (fun _ k => XS.iload X106.here hx rfl (hb hby at_213) rfl k) ?_
    refine own_go (B := T106.setTop (mkF m 216 #[.val (.int p0), .val (.ref b56'), .val (.int (16 : Int32)), .val (.ref (A 16)), .val (.int (3 : Int32)), .unset] [(.int (5 : Int32)), (.int (3 : Int32))])) (fun _ k => XT.iconstV X106.here hx rfl (5 : Int32) (hb hby at_215) rfl k) ?_
    refine own_go (B := T106.setTop (mkF m 219 #[.val (.int p0), .val (.ref b56'), .val (.int (16 : Int32)), .val (.ref (A 16)), .val (.int (3 : Int32)), .unset] [])) (fun _ k => XS.icmpNo X106.here hx rfl (hb hby at_216) rfl (by decide) k) ?_
    refine own_go (B := T106.setTop (mkF m 220 #[.val (.int p0), .val (.ref b56'), .val (.int (16 : Int32)), .val (.ref (A 16)), .val (.int (3 : Int32)), .unset] [(.int (1 : Int32))])) (fun _ k => XT.iconstV X106.here hx rfl (1 : Int32) (hb hby at_219) rfl k) ?_
    refine own_go (B := T106.setTop (mkF m 224 #[.val (.int p0), .val (.ref b56'), .val (.int (16 : Int32)), .val (.ref (A 16)), .val (.int (3 : Int32)), .unset] [(.int (1 : Int32))])) (fun _ k => XS.goto X106.here hx rfl (pc0 := 220) (pc' := 224) rfl (hb hby at_220) (by decide) (by decide) k) ?_
    refine own_go (B := T106.setTop (mkF m 226 #[.val (.int p0), .val (.ref b56'), .val (.int (16 : Int32)), .val (.ref (A 16)), .val (.int (3 : Int32)), .val (.int (1 : Int32))] [])) (fun _ k => XS.istore X106.here hx rfl (hb hby at_224) rfl (l' := #[.val (.int p0), .val (.ref b56'), .val (.int (16 : Int32)), .val (.ref (A 16)), .val (.int (3 : Int32)), .val (.int (1 : Int32))]) rfl k) ?_
    refine own_go (B := T106.setTop (mkF m 227 #[.val (.int p0), .val (.ref b56'), .val (.int (16 : Int32)), .val (.ref (A 16)), .val (.int (3 : Int32)), .val (.int (1 : Int32))] [(.ref (A 16))])) (fun _ k => XS.aloadN X106.here hx rfl (hb hby at_226) rfl rfl k) ?_
    obtain ⟨cq107, kq107, q107a, q107b, q107c⟩ := isOf hZ e106 (E_OR.ext x56')
    obtain ⟨_, _, ⟨T107, L107, k107, n107⟩, -, X107, ⟨Lc107, hQ107, l107, y107, z107⟩, st107⟩ := X106.virtualBack hx (y := (⟨"com/example/kilnbyte/kilnbyte/tree/Operator", "isBitwise", "()Z"⟩ : MethodName)) (z := (⟨"com/example/kilnbyte/kilnbyte/tree/Operator", "isBitwise", "()Z"⟩ : MethodName)) hown (mvT hZ (hw _ (List.mem_of_getElem? (i := 66) rfl))) (mvT hZ (hw _ (List.mem_of_getElem? (i := 67) rfl))) (notFace_of_selects (args := #[]) (mvT hZ (hw _ (List.mem_of_getElem? (i := 69) rfl)))) (mvT hZ (hw _ (List.mem_of_getElem? (i := 69) rfl))) (mvT hZ (hw _ (List.mem_of_getElem? (i := 68) rfl))) (by decide) (own_back (W := 0) (rm2_16 l Z a0 hw []  A hW h56' x56' ) hZ (hw _ (List.mem_of_getElem? (i := 70) rfl)) (hw _ (List.mem_of_getElem? (i := 3) rfl)) (by decide) (by decide)) q107a q107c (g := (mkF m 227 #[.val (.int p0), .val (.ref b56'), .val (.int (16 : Int32)), .val (.ref (A 16)), .val (.int (3 : Int32)), .val (.int (1 : Int32))] [(.ref (A 16))])) rfl (by rw [hml]; rfl) (Steps.refl _) (argsL := []) (rest := []) (lenOf pd_1 rfl) rfl (by show 2 * 0 + _ ≤ _; exact Nat.le_of_eq rfl) (hb hby at_227) (fun _ _ => ⟨rfl, e106, (by decide : 1 + 0 ≤ _), (by decide : 27 + 0 ≤ _)⟩)
    dsimp only [Pt.U, Pt.locs, Pt.cells, Pt.slots] at X107 l107 y107 z107 st107 hQ107
    subst l107 y107 z107
    obtain ⟨rfl, N107q, e107⟩ := hQ107
    have N107 := Fr.app N106 N107q
    refine own_go (B := T107.setTop (mkF m 230 #[.val (.int p0), .val (.ref b56'), .val (.int (16 : Int32)), .val (.ref (A 16)), .val (.int (3 : Int32)), .val (.int (1 : Int32))] [(.int (1 : Int32))])) (fun _ k => st107.trans k) ?_
    refine own_go (B := T107.setTop (mkF m 232 #[.val (.int p0), .val (.ref b56'), .val (.int (16 : Int32)), .val (.ref (A 16)), .val (.int (3 : Int32)), .val (.int (1 : Int32))] [(.int (1 : Int32)), (.int (1 : Int32))])) (fun _ k => XS.iload X107.here hx rfl (hb hby at_230) rfl k) ?_
    refine own_go (B := T107.setTop (mkF m 235 #[.val (.int p0), .val (.ref b56'), .val (.int (16 : Int32)), .val (.ref (A 16)), .val (.int (3 : Int32)), .val (.int (1 : Int32))] [])) (fun _ k => XS.icmpNo X107.here hx rfl (hb hby at_232) rfl (by decide) k) ?_
    refine own_go (B := T107.setTop (mkF m 236 #[.val (.int p0), .val (.ref b56'), .val (.int (16 : Int32)), .val (.ref (A 16)), .val (.int (3 : Int32)), .val (.int (1 : Int32))] [(.int (1 : Int32))])) (fun _ k => XT.iconstV X107.here hx rfl (1 : Int32) (hb hby at_235) rfl k) ?_
    refine own_go (B := T107.setTop (mkF m 240 #[.val (.int p0), .val (.ref b56'), .val (.int (16 : Int32)), .val (.ref (A 16)), .val (.int (3 : Int32)), .val (.int (1 : Int32))] [(.int (1 : Int32))])) (fun _ k => XS.goto X107.here hx rfl (pc0 := 236) (pc' := 240) rfl (hb hby at_236) (by decide) (by decide) k) ?_
    exact own_ret X107 hx (t := .boolean) hrt rfl (Or.inl ⟨rfl, by simp, _, rfl⟩) (hb hby at_240) hlk ⟨rfl, N107⟩ (by decide) (by decide)
  · refine own_go (B := T56'.setTop (mkF m 198 #[.val (.int p0), .val (.ref b56'), .val (.int (17 : Int32)), .unset, .unset, .unset] [(.ref b56')])) (fun _ k => XS.aloadN X56'.here hx rfl (hb hby at_197) rfl rfl k) ?_
    refine own_go (B := T56'.setTop (mkF m 199 #[.val (.int p0), .val (.ref b56'), .val (.int (17 : Int32)), .unset, .unset, .unset] [(.int (17 : Int32)), (.ref b56')])) (fun _ k => XS.iloadN X56'.here hx rfl (hb hby at_198) rfl k) ?_
    obtain ⟨cl108, Ar108, q108a, q108b, q108c, q108d, q108e⟩ := id V56'
    have i108 := inb_of (j := (17 : Int32)) q108b ⟨by decide, by decide⟩
    refine own_go (B := T56'.setTop (mkF m 200 #[.val (.int p0), .val (.ref b56'), .val (.int (17 : Int32)), .unset, .unset, .unset] [(.ref (A 17))])) (fun _ k => X56'.aaload hx (j := (17 : Int32)) (v := (.ref (A 17))) (by rw [e56']; exact Ar108.1) (State.isArrayOf_alike hZ.alike Ar108.2.1) rfl Ar108.2.2 i108 (Has.at q108d i108 rfl) (g := (mkF m 199 #[.val (.int p0), .val (.ref b56'), .val (.int (17 : Int32)), .unset, .unset, .unset] [(.int (17 : Int32)), (.ref b56')])) rfl rfl (hb hby at_199) _ k) ?_
    refine own_go (B := T56'.setTop (mkF m 201 #[.val (.int p0), .val (.ref b56'), .val (.int (17 : Int32)), .val (.ref (A 17)), .unset, .unset] [])) (fun _ k => XS.astoreN X56'.here hx rfl (hb hby at_200) rfl rfl (l' := #[.val (.int p0), .val (.ref b56'), .val (.int (17 : Int32)), .val (.ref (A 17)), .unset, .unset]) rfl k) ?_
    refine own_go (B := T56'.setTop (mkF m 202 #[.val (.int p0), .val (.ref b56'), .val (.int (17 : Int32)), .val (.ref (A 17)), .unset, .unset] [(.ref (A 17))])) (fun _ k => XS.aloadN X56'.here hx rfl (hb hby at_201) rfl rfl k) ?_
    obtain ⟨cq109, kq109, q109a, q109b, q109c⟩ := isOf hZ e56' (E_CONDITIONAL_AND.ext x56')
    obtain ⟨_, _, ⟨T109, L109, k109, n109⟩, -, X109, ⟨Lc109, hQ109, l109, y109, z109⟩, st109⟩ := X56'.virtualBack hx (y := (⟨"com/example/kilnbyte/kilnbyte/tree/Operator", "precedence", "()I"⟩ : MethodName)) (z := (⟨"com/example/kilnbyte/kilnbyte/tree/Operator", "precedence", "()I"⟩ : MethodName)) hown (mvT hZ (hw _ (List.mem_of_getElem? (i := 59) rfl))) (mvT hZ (hw _ (List.mem_of_getElem? (i := 60) rfl))) (notFace_of_selects (args := #[]) (mvT hZ (hw _ (List.mem_of_getElem? (i := 62) rfl)))) (mvT hZ (hw _ (List.mem_of_getElem? (i := 62) rfl))) (mvT hZ (hw _ (List.mem_of_getElem? (i := 61) rfl))) (by decide) (own_back (W := 0) (rm1_17 l Z a0 hw []  A hW h56' x56' ) hZ (hw _ (List.mem_of_getElem? (i := 63) rfl)) (hw _ (List.mem_of_getElem? (i := 3) rfl)) (by decide) (by decide)) q109a q109c (g := (mkF m 202 #[.val (.int p0), .val (.ref b56'), .val (.int (17 : Int32)), .val (.ref (A 17)), .unset, .unset] [(.ref (A 17))])) rfl (by rw [hml]; rfl) (Steps.refl _) (argsL := []) (rest := []) (lenOf pd_0 rfl) rfl (by show 2 * 0 + _ ≤ _; exact Nat.le_of_eq rfl) (hb hby at_202) (fun _ _ => ⟨rfl, e56', (by decide : 1 + 0 ≤ _), (by decide : 27 + 0 ≤ _)⟩)
    dsimp only [Pt.U, Pt.locs, Pt.cells, Pt.slots] at X109 l109 y109 z109 st109 hQ109
    subst l109 y109 z109
    obtain ⟨rfl, N109q, e109⟩ := hQ109
    have N109 := Fr.app N56' N109q
    refine own_go (B := T109.setTop (mkF m 205 #[.val (.int p0), .val (.ref b56'), .val (.int (17 : Int32)), .val (.ref (A 17)), .unset, .unset] [(.int (2 : Int32))])) (fun _ k => st109.trans k) ?_
    refine own_go (B := T109.setTop (mkF m 207 #[.val (.int p0), .val (.ref b56'), .val (.int (17 : Int32)), .val (.ref (A 17)), .val (.int (2 : Int32)), .unset] [])) (fun _ k => XS.istore X109.here hx rfl (hb hby at_205) rfl (l' := #[.val (.int p0), .val (.ref b56'), .val (.int (17 : Int32)), .val (.ref (A 17)), .val (.int (2 : Int32)), .unset]) rfl k) ?_
    refine own_go (B := T109.setTop (mkF m 209 #[.val (.int p0), .val (.ref b56'), .val (.int (17 : Int32)), .val (.ref (A 17)), .val (.int (2 : Int32)), .unset] [(.int (2 : Int32))])) (fun _ k => XS.iload X109.here hx rfl (hb hby at_207) rfl k) ?_
    refine own_go (B := T109.setTop (mkF m 210 #[.val (.int p0), .val (.ref b56'), .val (.int (17 : Int32)), .val (.ref (A 17)), .val (.int (2 : Int32)), .unset] [(.int (3 : Int32)), (.int (2 : Int32))])) (fun _ k => XT.iconstV X109.here hx rfl (3 : Int32) (hb hby at_209) rfl k) ?_
    refine own_go (B := T109.setTop (mkF m 223 #[.val (.int p0), .val (.ref b56'), .val (.int (17 : Int32)), .val (.ref (A 17)), .val (.int (2 : Int32)), .unset] [])) (fun _ k => XS.icmpYes X109.here hx rfl (pc0 := 210) (pc' := 223) rfl (hb hby at_210) rfl (by decide) (by decide) (by decide) k) ?_
    refine own_go (B := T109.setTop (mkF m 224 #[.val (.int p0), .val (.ref b56'), .val (.int (17 : Int32)), .val (.ref (A 17)), .val (.int (2 : Int32)), .unset] [(.int (0 : Int32))])) (fun _ k => XT.iconstV X109.here hx rfl (0 : Int32) (hb hby at_223) rfl k) ?_
    refine own_go (B := T109.setTop (mkF m 226 #[.val (.int p0), .val (.ref b56'), .val (.int (17 : Int32)), .val (.ref (A 17)), .val (.int (2 : Int32)), .val (.int (0 : Int32))] [])) (fun _ k => XS.istore X109.here hx rfl (hb hby at_224) rfl (l' := #[.val (.int p0), .val (.ref b56'), .val (.int (17 : Int32)), .val (.ref (A 17)), .val (.int (2 : Int32)), .val (.int (0 : Int32))]) rfl k) ?_
    refine own_go (B := T109.setTop (mkF m 227 #[.val (.int p0), .val (.ref b56'), .val (.int (17 : Int32)), .val (.ref (A 17)), .val (.int (2 : Int32)), .val (.int (0 : Int32))] [(.ref (A 17))])) (fun _ k => XS.aloadN X109.here hx rfl (hb hby at_226) rfl rfl k) ?_
    obtain ⟨cq110, kq110, q110a, q110b, q110c⟩ := isOf hZ e109 (E_CONDITIONAL_AND.ext x56')
    obtain ⟨_, _, ⟨T110, L110, k110, n110⟩, -, X110, ⟨Lc110, hQ110, l110, y110, z110⟩, st110⟩ := X109.virtualBack hx (y := (⟨"com/example/kilnbyte/kilnbyte/tree/Operator", "isBitwise", "()Z"⟩ : MethodName)) (z := (⟨"com/example/kilnbyte/kilnbyte/tree/Operator", "isBitwise", "()Z"⟩ : MethodName)) hown (mvT hZ (hw _ (List.mem_of_getElem? (i := 66) rfl))) (mvT hZ (hw _ (List.mem_of_getElem? (i := 67) rfl))) (notFace_of_selects (args := #[]) (mvT hZ (hw _ (List.mem_of_getElem? (i := 69) rfl)))) (mvT hZ (hw _ (List.mem_of_getElem? (i := 69) rfl))) (mvT hZ (hw _ (List.mem_of_getElem? (i := 68) rfl))) (by decide) (own_back (W := 0) (rm2_17 l Z a0 hw []  A hW h56' x56' ) hZ (hw _ (List.mem_of_getElem? (i := 70) rfl)) (hw _ (List.mem_of_getElem? (i := 3) rfl)) (by decide) (by decide)) q110a q110c (g := (mkF m 227 #[.val (.int p0), .val (.ref b56'), .val (.int (17 : Int32)), .val (.ref (A 17)), .val (.int (2 : Int32)), .val (.int (0 : Int32))] [(.ref (A 17))])) rfl (by rw [hml]; rfl) (Steps.refl _) (argsL := []) (rest := []) (lenOf pd_1 rfl) rfl (by show 2 * 0 + _ ≤ _; exact Nat.le_of_eq rfl) (hb hby at_227) (fun _ _ => ⟨rfl, e109, (by decide : 1 + 0 ≤ _), (by decide : 27 + 0 ≤ _)⟩)
    dsimp only [Pt.U, Pt.locs, Pt.cells, Pt.slots] at X110 l110 y110 z110 st110 hQ110
    subst l110 y110 z110
    obtain ⟨rfl, N110q, e110⟩ := hQ110
    have N110 := Fr.app N109 N110q
    refine own_go (B := T110.setTop (mkF m 230 #[.val (.int p0), .val (.ref b56'), .val (.int (17 : Int32)), .val (.ref (A 17)), .val (.int (2 : Int32)), .val (.int (0 : Int32))] [(.int (0 : Int32))])) (fun _ k => st110.trans k) ?_
    refine own_go (B := T110.setTop (mkF m 232 #[.val (.int p0), .val (.ref b56'), .val (.int (17 : Int32)), .val (.ref (A 17)), .val (.int (2 : Int32)), .val (.int (0 : Int32))] [(.int (0 : Int32)), (.int (0 : Int32))])) (fun _ k => XS.iload X110.here hx rfl (hb hby at_230) rfl k) ?_
    refine own_go (B := T110.setTop (mkF m 235 #[.val (.int p0), .val (.ref b56'), .val (.int (17 : Int32)), .val (.ref (A 17)), .val (.int (2 : Int32)), .val (.int (0 : Int32))] [])) (fun _ k => XS.icmpNo X110.here hx rfl (hb hby at_232) rfl (by decide) k) ?_
    refine own_go (B := T110.setTop (mkF m 236 #[.val (.int p0), .val (.ref b56'), .val (.int (17 : Int32)), .val (.ref (A 17)), .val (.int (2 : Int32)), .val (.int (0 : Int32))] [(.int (1 : Int32))])) (fun _ k => XT.iconstV X110.here hx rfl (1 : Int32) (hb hby at_235) rfl k) ?_
    refine own_go (B := T110.setTop (mkF m 240 #[.val (.int p0), .val (.ref b56'), .val (.int (17 : Int32)), .val (.ref (A 17)), .val (.int (2 : Int32)), .val (.int (0 : Int32))] [(.int (1 : Int32))])) (fun _ k => XS.goto X110.here hx rfl (pc0 := 236) (pc' := 240) rfl (hb hby at_236) (by decide) (by decide) k) ?_
    exact own_ret X110 hx (t := .boolean) hrt rfl (Or.inl ⟨rfl, by simp, _, rfl⟩) (hb hby at_240) hlk ⟨rfl, N110⟩ (by decide) (by decide)
  · refine own_go (B := T56'.setTop (mkF m 198 #[.val (.int p0), .val (.ref b56'), .val (.int (18 : Int32)), .unset, .unset, .unset] [(.ref b56')])) (fun _ k => XS.aloadN X56'.here hx rfl (hb hby at_197) rfl rfl k) ?_
    refine own_go (B := T56'.setTop (mkF m 199 #[.val (.int p0), .val (.ref b56'), .val (.int (18 : Int32)), .unset, .unset, .unset] [(.int (18 : Int32)), (.ref b56')])) (fun _ k => XS.iloadN X56'.here hx rfl (hb hby at_198) rfl k) ?_
    obtain ⟨cl111, Ar111, q111a, q111b, q111c, q111d, q111e⟩ := id V56'
    have i111 := inb_of (j := (18 : Int32)) q111b ⟨by decide, by decide⟩
    refine own_go (B := T56'.setTop (mkF m 200 #[.val (.int p0), .val (.ref b56'), .val (.int (18 : Int32)), .unset, .unset, .unset] [(.ref (A 18))])) (fun _ k => X56'.aaload hx (j := (18 : Int32)) (v := (.ref (A 18))) (by rw [e56']; exact Ar111.1) (State.isArrayOf_alike hZ.alike Ar111.2.1) rfl Ar111.2.2 i111 (Has.at q111d i111 rfl) (g := (mkF m 199 #[.val (.int p0), .val (.ref b56'), .val (.int (18 : Int32)), .unset, .unset, .unset] [(.int (18 : Int32)), (.ref b56')])) rfl rfl (hb hby at_199) _ k) ?_
    refine own_go (B := T56'.setTop (mkF m 201 #[.val (.int p0), .val (.ref b56'), .val (.int (18 : Int32)), .val (.ref (A 18)), .unset, .unset] [])) (fun _ k => XS.astoreN X56'.here hx rfl (hb hby at_200) rfl rfl (l' := #[.val (.int p0), .val (.ref b56'), .val (.int (18 : Int32)), .val (.ref (A 18)), .unset, .unset]) rfl k) ?_
    refine own_go (B := T56'.setTop (mkF m 202 #[.val (.int p0), .val (.ref b56'), .val (.int (18 : Int32)), .val (.ref (A 18)), .unset, .unset] [(.ref (A 18))])) (fun _ k => XS.aloadN X56'.here hx rfl (hb hby at_201) rfl rfl k) ?_
    obtain ⟨cq112, kq112, q112a, q112b, q112c⟩ := isOf hZ e56' (E_CONDITIONAL_OR.ext x56')
    obtain ⟨_, _, ⟨T112, L112, k112, n112⟩, -, X112, ⟨Lc112, hQ112, l112, y112, z112⟩, st112⟩ := X56'.virtualBack hx (y := (⟨"com/example/kilnbyte/kilnbyte/tree/Operator", "precedence", "()I"⟩ : MethodName)) (z := (⟨"com/example/kilnbyte/kilnbyte/tree/Operator", "precedence", "()I"⟩ : MethodName)) hown (mvT hZ (hw _ (List.mem_of_getElem? (i := 59) rfl))) (mvT hZ (hw _ (List.mem_of_getElem? (i := 60) rfl))) (notFace_of_selects (args := #[]) (mvT hZ (hw _ (List.mem_of_getElem? (i := 62) rfl)))) (mvT hZ (hw _ (List.mem_of_getElem? (i := 62) rfl))) (mvT hZ (hw _ (List.mem_of_getElem? (i := 61) rfl))) (by decide) (own_back (W := 0) (rm1_18 l Z a0 hw []  A hW h56' x56' ) hZ (hw _ (List.mem_of_getElem? (i := 63) rfl)) (hw _ (List.mem_of_getElem? (i := 3) rfl)) (by decide) (by decide)) q112a q112c (g := (mkF m 202 #[.val (.int p0), .val (.ref b56'), .val (.int (18 : Int32)), .val (.ref (A 18)), .unset, .unset] [(.ref (A 18))])) rfl (by rw [hml]; rfl) (Steps.refl _) (argsL := []) (rest := []) (lenOf pd_0 rfl) rfl (by show 2 * 0 + _ ≤ _; exact Nat.le_of_eq rfl) (hb hby at_202) (fun _ _ => ⟨rfl, e56', (by decide : 1 + 0 ≤ _), (by decide : 27 + 0 ≤ _)⟩)
    dsimp only [Pt.U, Pt.locs, Pt.cells, Pt.slots] at X112 l112 y112 z112 st112 hQ112
    subst l112 y112 z112
    obtain ⟨rfl, N112q, e112⟩ := hQ112
    have N112 := Fr.app N56' N112q
    refine own_go (B := T112.setTop (mkF m 205 #[.val (.int p0), .val (.ref b56'), .val (.int (18 : Int32)), .val (.ref (A 18)), .unset, .unset] [(.int (1 : Int32))])) (fun _ k => st112.trans k) ?_
    refine own_go (B := T112.setTop (mkF m 207 #[.val (.int p0), .val (.ref b56'), .val (.int (18 : Int32)), .val (.ref (A 18)), .val (.int (1 : Int32)), .unset] [])) (fun _ k => XS.istore X112.here hx rfl (hb hby at_205) rfl (l' := #[.val (.int p0), .val (.ref b56'), .val (.int (18 : Int32)), .val (.ref (A 18)), .val (.int (1 : Int32)), .unset]) rfl k) ?_
    refine own_go (B := T112.setTop (mkF m 209 #[.val (.int p0), .val (.ref b56'), .val (.int (18 : Int32)), .val (.ref (A 18)), .val (.int (1 : Int32)), .unset] [(.int (1 : Int32))])) (fun _ k => XS.iload X112.here hx rfl (hb hby at_207) rfl k) ?_
    refine own_go (B := T112.setTop (mkF m 210 #[.val (.int p0), .val (.ref b56'), .val (.int (18 : Int32)), .val (.ref (A 18)), .val (.int (1 : Int32)), .unset] [(.int (3 : Int32)), (.int (1 : Int32))])) (fun _ k => XT.iconstV X112.here hx rfl (3 : Int32) (hb hby at_209) rfl k) ?_
    refine own_go (B := T112.setTop (mkF m 223 #[.val (.int p0), .val (.ref b56'), .val (.int (18 : Int32)), .val (.ref (A 18)), .val (.int (1 : Int32)), .unset] [])) (fun _ k => XS.icmpYes X112.here hx rfl (pc0 := 210) (pc' := 223) rfl (hb hby at_210) rfl (by decide) (by decide) (by decide) k) ?_
    refine own_go (B := T112.setTop (mkF m 224 #[.val (.int p0), .val (.ref b56'), .val (.int (18 : Int32)), .val (.ref (A 18)), .val (.int (1 : Int32)), .unset] [(.int (0 : Int32))])) (fun _ k => XT.iconstV X112.here hx rfl (0 : Int32) (hb hby at_223) rfl k) ?_
    refine own_go (B := T112.setTop (mkF m 226 #[.val (.int p0), .val (.ref b56'), .val (.int (18 : Int32)), .val (.ref (A 18)), .val (.int (1 : Int32)), .val (.int (0 : Int32))] [])) (fun _ k => XS.istore X112.here hx rfl (hb hby at_224) rfl (l' := #[.val (.int p0), .val (.ref b56'), .val (.int (18 : Int32)), .val (.ref (A 18)), .val (.int (1 : Int32)), .val (.int (0 : Int32))]) rfl k) ?_
    refine own_go (B := T112.setTop (mkF m 227 #[.val (.int p0), .val (.ref b56'), .val (.int (18 : Int32)), .val (.ref (A 18)), .val (.int (1 : Int32)), .val (.int (0 : Int32))] [(.ref (A 18))])) (fun _ k => XS.aloadN X112.here hx rfl (hb hby at_226) rfl rfl k) ?_
    obtain ⟨cq113, kq113, q113a, q113b, q113c⟩ := isOf hZ e112 (E_CONDITIONAL_OR.ext x56')
    obtain ⟨_, _, ⟨T113, L113, k113, n113⟩, -, X113, ⟨Lc113, hQ113, l113, y113, z113⟩, st113⟩ := X112.virtualBack hx (y := (⟨"com/example/kilnbyte/kilnbyte/tree/Operator", "isBitwise", "()Z"⟩ : MethodName)) (z := (⟨"com/example/kilnbyte/kilnbyte/tree/Operator", "isBitwise", "()Z"⟩ : MethodName)) hown (mvT hZ (hw _ (List.mem_of_getElem? (i := 66) rfl))) (mvT hZ (hw _ (List.mem_of_getElem? (i := 67) rfl))) (notFace_of_selects (args := #[]) (mvT hZ (hw _ (List.mem_of_getElem? (i := 69) rfl)))) (mvT hZ (hw _ (List.mem_of_getElem? (i := 69) rfl))) (mvT hZ (hw _ (List.mem_of_getElem? (i := 68) rfl))) (by decide) (own_back (W := 0) (rm2_18 l Z a0 hw []  A hW h56' x56' ) hZ (hw _ (List.mem_of_getElem? (i := 70) rfl)) (hw _ (List.mem_of_getElem? (i := 3) rfl)) (by decide) (by decide)) q113a q113c (g := (mkF m 227 #[.val (.int p0), .val (.ref b56'), .val (.int (18 : Int32)), .val (.ref (A 18)), .val (.int (1 : Int32)), .val (.int (0 : Int32))] [(.ref (A 18))])) rfl (by rw [hml]; rfl) (Steps.refl _) (argsL := []) (rest := []) (lenOf pd_1 rfl) rfl (by show 2 * 0 + _ ≤ _; exact Nat.le_of_eq rfl) (hb hby at_227) (fun _ _ => ⟨rfl, e112, (by decide : 1 + 0 ≤ _), (by decide : 27 + 0 ≤ _)⟩)
    dsimp only [Pt.U, Pt.locs, Pt.cells, Pt.slots] at X113 l113 y113 z113 st113 hQ113
    subst l113 y113 z113
    obtain ⟨rfl, N113q, e113⟩ := hQ113
    have N113 := Fr.app N112 N113q
    refine own_go (B := T113.setTop (mkF m 230 #[.val (.int p0), .val (.ref b56'), .val (.int (18 : Int32)), .val (.ref (A 18)), .val (.int (1 : Int32)), .val (.int (0 : Int32))] [(.int (0 : Int32))])) (fun _ k => st113.trans k) ?_
    refine own_go (B := T113.setTop (mkF m 232 #[.val (.int p0), .val (.ref b56'), .val (.int (18 : Int32)), .val (.ref (A 18)), .val (.int (1 : Int32)), .val (.int (0 : Int32))] [(.int (0 : Int32)), (.int (0 : Int32))])) (fun _ k => XS.iload X113.here hx rfl (hb hby at_230) rfl k) ?_
    refine own_go (B := T113.setTop (mkF m 235 #[.val (.int p0), .val (.ref b56'), .val (.int (18 : Int32)), .val (.ref (A 18)), .val (.int (1 : Int32)), .val (.int (0 : Int32))] [])) (fun _ k => XS.icmpNo X113.here hx rfl (hb hby at_232) rfl (by decide) k) ?_
    refine own_go (B := T113.setTop (mkF m 236 #[.val (.int p0), .val (.ref b56'), .val (.int (18 : Int32)), .val (.ref (A 18)), .val (.int (1 : Int32)), .val (.int (0 : Int32))] [(.int (1 : Int32))])) (fun _ k => XT.iconstV X113.here hx rfl (1 : Int32) (hb hby at_235) rfl k) ?_
    refine own_go (B := T113.setTop (mkF m 240 #[.val (.int p0), .val (.ref b56'), .val (.int (18 : Int32)), .val (.ref (A 18)), .val (.int (1 : Int32)), .val (.int (0 : Int32))] [(.int (1 : Int32))])) (fun _ k => XS.goto X113.here hx rfl (pc0 := 236) (pc' := 240) rfl (hb hby at_236) (by decide) (by decide) k) ?_
    exact own_ret X113 hx (t := .boolean) hrt rfl (Or.inl ⟨rfl, by simp, _, rfl⟩) (hb hby at_240) hlk ⟨rfl, N113⟩ (by decide) (by decide)
  · refine own_go (B := T56'.setTop (mkF m 198 #[.val (.int p0), .val (.ref b56'), .val (.int (19 : Int32)), .unset, .unset, .unset] [(.ref b56')])) (fun _ k => XS.aloadN X56'.here hx rfl (hb hby at_197) rfl rfl k) ?_
    refine own_go (B := T56'.setTop (mkF m 199 #[.val (.int p0), .val (.ref b56'), .val (.int (19 : Int32)), .unset, .unset, .unset] [(.int (19 : Int32)), (.ref b56')])) (fun _ k => XS.iloadN X56'.here hx rfl (hb hby at_198) rfl k) ?_
    obtain ⟨cl114, Ar114, q114a, q114b, q114c, q114d, q114e⟩ := id V56'
    have i114 := inb_of (j := (19 : Int32)) q114b ⟨by decide, by decide⟩
    refine own_go (B := T56'.setTop (mkF m 200 #[.val (.int p0), .val (.ref b56'), .val (.int (19 : Int32)), .unset, .unset, .unset] [(.ref (A 19))])) (fun _ k => X56'.aaload hx (j := (19 : Int32)) (v := (.ref (A 19))) (by rw [e56']; exact Ar114.1) (State.isArrayOf_alike hZ.alike Ar114.2.1) rfl Ar114.2.2 i114 (Has.at q114d i114 rfl) (g := (mkF m 199 #[.val (.int p0), .val (.ref b56'), .val (.int (19 : Int32)), .unset, .unset, .unset] [(.int (19 : Int32)), (.ref b56')])) rfl rfl (hb hby at_199) _ k) ?_
    refine own_go (B := T56'.setTop (mkF m 201 #[.val (.int p0), .val (.ref b56'), .val (.int (19 : Int32)), .val (.ref (A 19)), .unset, .unset] [])) (fun _ k => XS.astoreN X56'.here hx rfl (hb hby at_200) rfl rfl (l' := #[.val (.int p0), .val (.ref b56'), .val (.int (19 : Int32)), .val (.ref (A 19)), .unset, .unset]) rfl k) ?_
    refine own_go (B := T56'.setTop (mkF m 202 #[.val (.int p0), .val (.ref b56'), .val (.int (19 : Int32)), .val (.ref (A 19)), .unset, .unset] [(.ref (A 19))])) (fun _ k => XS.aloadN X56'.here hx rfl (hb hby at_201) rfl rfl k) ?_
    obtain ⟨cq115, kq115, q115a, q115b, q115c⟩ := isOf hZ e56' (E_PLUS.ext x56')
    obtain ⟨_, _, ⟨T115, L115, k115, n115⟩, -, X115, ⟨Lc115, hQ115, l115, y115, z115⟩, st115⟩ := X56'.virtualBack hx (y := (⟨"com/example/kilnbyte/kilnbyte/tree/Operator", "precedence", "()I"⟩ : MethodName)) (z := (⟨"com/example/kilnbyte/kilnbyte/tree/Operator", "precedence", "()I"⟩ : MethodName)) hown (mvT hZ (hw _ (List.mem_of_getElem? (i := 59) rfl))) (mvT hZ (hw _ (List.mem_of_getElem? (i := 60) rfl))) (notFace_of_selects (args := #[]) (mvT hZ (hw _ (List.mem_of_getElem? (i := 62) rfl)))) (mvT hZ (hw _ (List.mem_of_getElem? (i := 62) rfl))) (mvT hZ (hw _ (List.mem_of_getElem? (i := 61) rfl))) (by decide) (own_back (W := 0) (rm1_19 l Z a0 hw []  A hW h56' x56' ) hZ (hw _ (List.mem_of_getElem? (i := 63) rfl)) (hw _ (List.mem_of_getElem? (i := 3) rfl)) (by decide) (by decide)) q115a q115c (g := (mkF m 202 #[.val (.int p0), .val (.ref b56'), .val (.int (19 : Int32)), .val (.ref (A 19)), .unset, .unset] [(.ref (A 19))])) rfl (by rw [hml]; rfl) (Steps.refl _) (argsL := []) (rest := []) (lenOf pd_0 rfl) rfl (by show 2 * 0 + _ ≤ _; exact Nat.le_of_eq rfl) (hb hby at_202) (fun _ _ => ⟨rfl, e56', (by decide : 1 + 0 ≤ _), (by decide : 27 + 0 ≤ _)⟩)
    dsimp only [Pt.U, Pt.locs, Pt.cells, Pt.slots] at X115 l115 y115 z115 st115 hQ115
    subst l115 y115 z115
    obtain ⟨rfl, N115q, e115⟩ := hQ115
    have N115 := Fr.app N56' N115q
    refine own_go (B := T115.setTop (mkF m 205 #[.val (.int p0), .val (.ref b56'), .val (.int (19 : Int32)), .val (.ref (A 19)), .unset, .unset] [(.int (0 : Int32))])) (fun _ k => st115.trans k) ?_
    refine own_go (B := T115.setTop (mkF m 207 #[.val (.int p0), .val (.ref b56'), .val (.int (19 : Int32)), .val (.ref (A 19)), .val (.int (0 : Int32)), .unset] [])) (fun _ k => XS.istore X115.here hx rfl (hb hby at_205) rfl (l' := #[.val (.int p0), .val (.ref b56'), .val (.int (19 : Int32)), .val (.ref (A 19)), .val (.int (0 : Int32)), .unset]) rfl k) ?_
    refine own_go (B := T115.setTop (mkF m 209 #[.val (.int p0), .val (.ref b56'), .val (.int (19 : Int32)), .val (.ref (A 19)), .val (.int (0 : Int32)), .unset] [(.int (0 : Int32))])) (fun _ k => XS.iload X115.here hx rfl (hb hby at_207) rfl k) ?_
    refine own_go (B := T115.setTop (mkF m 210 #[.val (.int p0), .val (.ref b56'), .val (.int (19 : Int32)), .val (.ref (A 19)), .val (.int (0 : Int32)), .unset] [(.int (3 : Int32)), (.int (0 : Int32))])) (fun _ k => XT.iconstV X115.here hx rfl (3 : Int32) (hb hby at_209) rfl k) ?_
    refine own_go (B := T115.setTop (mkF m 223 #[.val (.int p0), .val (.ref b56'), .val (.int (19 : Int32)), .val (.ref (A 19)), .val (.int (0 : Int32)), .unset] [])) (fun _ k => XS.icmpYes X115.here hx rfl (pc0 := 210) (pc' := 223) rfl (hb hby at_210) rfl (by decide) (by decide) (by decide) k) ?_
    refine own_go (B := T115.setTop (mkF m 224 #[.val (.int p0), .val (.ref b56'), .val (.int (19 : Int32)), .val (.ref (A 19)), .val (.int (0 : Int32)), .unset] [(.int (0 : Int32))])) (fun _ k => XT.iconstV X115.here hx rfl (0 : Int32) (hb hby at_223) rfl k) ?_
    refine own_go (B := T115.setTop (mkF m 226 #[.val (.int p0), .val (.ref b56'), .val (.int (19 : Int32)), .val (.ref (A 19)), .val (.int (0 : Int32)), .val (.int (0 : Int32))] [])) (fun _ k => XS.istore X115.here hx rfl (hb hby at_224) rfl (l' := #[.val (.int p0), .val (.ref b56'), .val (.int (19 : Int32)), .val (.ref (A 19)), .val (.int (0 : Int32)), .val (.int (0 : Int32))]) rfl k) ?_
    refine own_go (B := T115.setTop (mkF m 227 #[.val (.int p0), .val (.ref b56'), .val (.int (19 : Int32)), .val (.ref (A 19)), .val (.int (0 : Int32)), .val (.int (0 : Int32))] [(.ref (A 19))])) (fun _ k => XS.aloadN X115.here hx rfl (hb hby at_226) rfl rfl k) ?_
    obtain ⟨cq116, kq116, q116a, q116b, q116c⟩ := isOf hZ e115 (E_PLUS.ext x56')
    obtain ⟨_, _, ⟨T116, L116, k116, n116⟩, -, X116, ⟨Lc116, hQ116, l116, y116, z116⟩, st116⟩ := X115.virtualBack hx (y := (⟨"com/example/kilnbyte/kilnbyte/tree/Operator", "isBitwise", "()Z"⟩ : MethodName)) (z := (⟨"com/example/kilnbyte/kilnbyte/tree/Operator", "isBitwise", "()Z"⟩ : MethodName)) hown (mvT hZ (hw _ (List.mem_of_getElem? (i := 66) rfl))) (mvT hZ (hw _ (List.mem_of_getElem? (i := 67) rfl))) (notFace_of_selects (args := #[]) (mvT hZ (hw _ (List.mem_of_getElem? (i := 69) rfl)))) (mvT hZ (hw _ (List.mem_of_getElem? (i := 69) rfl))) (mvT hZ (hw _ (List.mem_of_getElem? (i := 68) rfl))) (by decide) (own_back (W := 0) (rm2_19 l Z a0 hw []  A hW h56' x56' ) hZ (hw _ (List.mem_of_getElem? (i := 70) rfl)) (hw _ (List.mem_of_getElem? (i := 3) rfl)) (by decide) (by decide)) q116a q116c (g := (mkF m 227 #[.val (.int p0), .val (.ref b56'), .val (.int (19 : Int32)), .val (.ref (A 19)), .val (.int (0 : Int32)), .val (.int (0 : Int32))] [(.ref (A 19))])) rfl (by rw [hml]; rfl) (Steps.refl _) (argsL := []) (rest := []) (lenOf pd_1 rfl) rfl (by show 2 * 0 + _ ≤ _; exact Nat.le_of_eq rfl) (hb hby at_227) (fun _ _ => ⟨rfl, e115, (by decide : 1 + 0 ≤ _), (by decide : 27 + 0 ≤ _)⟩)
    dsimp only [Pt.U, Pt.locs, Pt.cells, Pt.slots] at X116 l116 y116 z116 st116 hQ116
    subst l116 y116 z116
    obtain ⟨rfl, N116q, e116⟩ := hQ116
    have N116 := Fr.app N115 N116q
    refine own_go (B := T116.setTop (mkF m 230 #[.val (.int p0), .val (.ref b56'), .val (.int (19 : Int32)), .val (.ref (A 19)), .val (.int (0 : Int32)), .val (.int (0 : Int32))] [(.int (0 : Int32))])) (fun _ k => st116.trans k) ?_
    refine own_go (B := T116.setTop (mkF m 232 #[.val (.int p0), .val (.ref b56'), .val (.int (19 : Int32)), .val (.ref (A 19)), .val (.int (0 : Int32)), .val (.int (0 : Int32))] [(.int (0 : Int32)), (.int (0 : Int32))])) (fun _ k => XS.iload X116.here hx rfl (hb hby at_230) rfl k) ?_
    refine own_go (B := T116.setTop (mkF m 235 #[.val (.int p0), .val (.ref b56'), .val (.int (19 : Int32)), .val (.ref (A 19)), .val (.int (0 : Int32)), .val (.int (0 : Int32))] [])) (fun _ k => XS.icmpNo X116.here hx rfl (hb hby at_232) rfl (by decide) k) ?_
    refine own_go (B := T116.setTop (mkF m 236 #[.val (.int p0), .val (.ref b56'), .val (.int (19 : Int32)), .val (.ref (A 19)), .val (.int (0 : Int32)), .val (.int (0 : Int32))] [(.int (1 : Int32))])) (fun _ k => XT.iconstV X116.here hx rfl (1 : Int32) (hb hby at_235) rfl k) ?_
    refine own_go (B := T116.setTop (mkF m 240 #[.val (.int p0), .val (.ref b56'), .val (.int (19 : Int32)), .val (.ref (A 19)), .val (.int (0 : Int32)), .val (.int (0 : Int32))] [(.int (1 : Int32))])) (fun _ k => XS.goto X116.here hx rfl (pc0 := 236) (pc' := 240) rfl (hb hby at_236) (by decide) (by decide) k) ?_
    exact own_ret X116 hx (t := .boolean) hrt rfl (Or.inl ⟨rfl, by simp, _, rfl⟩) (hb hby at_240) hlk ⟨rfl, N116⟩ (by decide) (by decide)
  · refine own_go (B := T56'.setTop (mkF m 198 #[.val (.int p0), .val (.ref b56'), .val (.int (20 : Int32)), .unset, .unset, .unset] [(.ref b56')])) (fun _ k => XS.aloadN X56'.here hx rfl (hb hby at_197) rfl rfl k) ?_
    refine own_go (B := T56'.setTop (mkF m 199 #[.val (.int p0), .val (.ref b56'), .val (.int (20 : Int32)), .unset, .unset, .unset] [(.int (20 : Int32)), (.ref b56')])) (fun _ k => XS.iloadN X56'.here hx rfl (hb hby at_198) rfl k) ?_
    obtain ⟨cl117, Ar117, q117a, q117b, q117c, q117d, q117e⟩ := id V56'
    have i117 := inb_of (j := (20 : Int32)) q117b ⟨by decide, by decide⟩
    refine own_go (B := T56'.setTop (mkF m 200 #[.val (.int p0), .val (.ref b56'), .val (.int (20 : Int32)), .unset, .unset, .unset] [(.ref (A 20))])) (fun _ k => X56'.aaload hx (j := (20 : Int32)) (v := (.ref (A 20))) (by rw [e56']; exact Ar117.1) (State.isArrayOf_alike hZ.alike Ar117.2.1) rfl Ar117.2.2 i117 (Has.at q117d i117 rfl) (g := (mkF m 199 #[.val (.int p0), .val (.ref b56'), .val (.int (20 : Int32)), .unset, .unset, .unset] [(.int (20 : Int32)), (.ref b56')])) rfl rfl (hb hby at_199) _ k) ?_
    refine own_go (B := T56'.setTop (mkF m 201 #[.val (.int p0), .val (.ref b56'), .val (.int (20 : Int32)), .val (.ref (A 20)), .unset, .unset] [])) (fun _ k => XS.astoreN X56'.here hx rfl (hb hby at_200) rfl rfl (l' := #[.val (.int p0), .val (.ref b56'), .val (.int (20 : Int32)), .val (.ref (A 20)), .unset, .unset]) rfl k) ?_
    refine own_go (B := T56'.setTop (mkF m 202 #[.val (.int p0), .val (.ref b56'), .val (.int (20 : Int32)), .val (.ref (A 20)), .unset, .unset] [(.ref (A 20))])) (fun _ k => XS.aloadN X56'.here hx rfl (hb hby at_201) rfl rfl k) ?_
    obtain ⟨cq118, kq118, q118a, q118b, q118c⟩ := isOf hZ e56' (E_MINUS.ext x56')
    obtain ⟨_, _, ⟨T118, L118, k118, n118⟩, -, X118, ⟨Lc118, hQ118, l118, y118, z118⟩, st118⟩ := X56'.virtualBack hx (y := (⟨"com/example/kilnbyte/kilnbyte/tree/Operator", "precedence", "()I"⟩ : MethodName)) (z := (⟨"com/example/kilnbyte/kilnbyte/tree/Operator", "precedence", "()I"⟩ : MethodName)) hown (mvT hZ (hw _ (List.mem_of_getElem? (i := 59) rfl))) (mvT hZ (hw _ (List.mem_of_getElem? (i := 60) rfl))) (notFace_of_selects (args := #[]) (mvT hZ (hw _ (List.mem_of_getElem? (i := 62) rfl)))) (mvT hZ (hw _ (List.mem_of_getElem? (i := 62) rfl))) (mvT hZ (hw _ (List.mem_of_getElem? (i := 61) rfl))) (by decide) (own_back (W := 0) (rm1_20 l Z a0 hw []  A hW h56' x56' ) hZ (hw _ (List.mem_of_getElem? (i := 63) rfl)) (hw _ (List.mem_of_getElem? (i := 3) rfl)) (by decide) (by decide)) q118a q118c (g := (mkF m 202 #[.val (.int p0), .val (.ref b56'), .val (.int (20 : Int32)), .val (.ref (A 20)), .unset, .unset] [(.ref (A 20))])) rfl (by rw [hml]; rfl) (Steps.refl _) (argsL := []) (rest := []) (lenOf pd_0 rfl) rfl (by show 2 * 0 + _ ≤ _; exact Nat.le_of_eq rfl) (hb hby at_202) (fun _ _ => ⟨rfl, e56', (by decide : 1 + 0 ≤ _), (by decide : 27 + 0 ≤ _)⟩)
    dsimp only [Pt.U, Pt.locs, Pt.cells, Pt.slots] at X118 l118 y118 z118 st118 hQ118
    subst l118 y118 z118
    obtain ⟨rfl, N118q, e118⟩ := hQ118
    have N118 := Fr.app N56' N118q
    refine own_go (B := T118.setTop (mkF m 205 #[.val (.int p0), .val (.ref b56'), .val (.int (20 : Int32)), .val (.ref (A 20)), .unset, .unset] [(.int (0 : Int32))])) (fun _ k => st118.trans k) ?_
    refine own_go (B := T118.setTop (mkF m 207 #[.val (.int p0), .val (.ref b56'), .val (.int (20 : Int32)), .val (.ref (A 20)), .val (.int (0 : Int32)), .unset] [])) (fun _ k => XS.istore X118.here hx rfl (hb hby at_205) rfl (l' := #[.val (.int p0), .val (.ref b56'), .val (.int (20 : Int32)), .val (.ref (A 20)), .val (.int (0 : Int32)), .unset]) rfl k) ?_
    refine own_go (B := T118.setTop (mkF m 209 #[.val (.int p0), .val (.ref b56'), .val (.int (20 : Int32)), .val (.ref (A 20)), .val (.int (0 : Int32)), .unset] [(.int (0 : Int32))])) (fun _ k => XS.iload X118.here hx rfl (hb hby at_207) rfl k) ?_
    refine own_go (B := T118.setTop (mkF m 210 #[.val (.int p0), .val (.ref b56'), .val (.int (20 : Int32)), .val (.ref (A 20)), .val (.int (0 : Int32)), .unset] [(.int (3 : Int32)), (.int (0 : Int32))])) (fun _ k => XT.iconstV X118.here hx rfl (3 : Int32) (hb hby at_209) rfl k) ?_
    refine own_go (B := T118.setTop (mkF m 223 #[.val (.int p0), .val (.ref b56'), .val (.int (20 : Int32)), .val (.ref (A 20)), .val (.int (0 : Int32)), .unset] [])) (fun _ k => XS.icmpYes X118.here hx rfl (pc0 := 210) (pc' := 223) rfl (hb hby at_210) rfl (by decide) (by decide) (by decide) k) ?_
    refine own_go (B := T118.setTop (mkF m 224 #[.val (.int p0), .val (.ref b56'), .val (.int (20 : Int32)), .val (.ref (A 20)), .val (.int (0 : Int32)), .unset] [(.int (0 : Int32))])) (fun _ k => XT.iconstV X118.here hx rfl (0 : Int32) (hb hby at_223) rfl k) ?_
    refine own_go (B := T118.setTop (mkF m 226 #[.val (.int p0), .val (.ref b56'), .val (.int (20 : Int32)), .val (.ref (A 20)), .val (.int (0 : Int32)), .val (.int (0 : Int32))] [])) (fun _ k => XS.istore X118.here hx rfl (hb hby at_224) rfl (l' := #[.val (.int p0), .val (.ref b56'), .val (.int (20 : Int32)), .val (.ref (A 20)), .val (.int (0 : Int32)), .val (.int (0 : Int32))]) rfl k) ?_
    refine own_go (B := T118.setTop (mkF m 227 #[.val (.int p0), .val (.ref b56'), .val (.int (20 : Int32)), .val (.ref (A 20)), .val (.int (0 : Int32)), .val (.int (0 : Int32))] [(.ref (A 20))])) (fun _ k => XS.aloadN X118.here hx rfl (hb hby at_226) rfl rfl k) ?_
    obtain ⟨cq119, kq119, q119a, q119b, q119c⟩ := isOf hZ e118 (E_MINUS.ext x56')
    obtain ⟨_, _, ⟨T119, L119, k119, n119⟩, -, X119, ⟨Lc119, hQ119, l119, y119, z119⟩, st119⟩ := X118.virtualBack hx (y := (⟨"com/example/kilnbyte/kilnbyte/tree/Operator", "isBitwise", "()Z"⟩ : MethodName)) (z := (⟨"com/example/kilnbyte/kilnbyte/tree/Operator", "isBitwise", "()Z"⟩ : MethodName)) hown (mvT hZ (hw _ (List.mem_of_getElem? (i := 66) rfl))) (mvT hZ (hw _ (List.mem_of_getElem? (i := 67) rfl))) (notFace_of_selects (args := #[]) (mvT hZ (hw _ (List.mem_of_getElem? (i := 69) rfl)))) (mvT hZ (hw _ (List.mem_of_getElem? (i := 69) rfl))) (mvT hZ (hw _ (List.mem_of_getElem? (i := 68) rfl))) (by decide) (own_back (W := 0) (rm2_20 l Z a0 hw []  A hW h56' x56' ) hZ (hw _ (List.mem_of_getElem? (i := 70) rfl)) (hw _ (List.mem_of_getElem? (i := 3) rfl)) (by decide) (by decide)) q119a q119c (g := (mkF m 227 #[.val (.int p0), .val (.ref b56'), .val (.int (20 : Int32)), .val (.ref (A 20)), .val (.int (0 : Int32)), .val (.int (0 : Int32))] [(.ref (A 20))])) rfl (by rw [hml]; rfl) (Steps.refl _) (argsL := []) (rest := []) (lenOf pd_1 rfl) rfl (by show 2 * 0 + _ ≤ _; exact Nat.le_of_eq rfl) (hb hby at_227) (fun _ _ => ⟨rfl, e118, (by decide : 1 + 0 ≤ _), (by decide : 27 + 0 ≤ _)⟩)
    dsimp only [Pt.U, Pt.locs, Pt.cells, Pt.slots] at X119 l119 y119 z119 st119 hQ119
    subst l119 y119 z119
    obtain ⟨rfl, N119q, e119⟩ := hQ119
    have N119 := Fr.app N118 N119q
    refine own_go (B := T119.setTop (mkF m 230 #[.val (.int p0), .val (.ref b56'), .val (.int (20 : Int32)), .val (.ref (A 20)), .val (.int (0 : Int32)), .val (.int (0 : Int32))] [(.int (0 : Int32))])) (fun _ k => st119.trans k) ?_
    refine own_go (B := T119.setTop (mkF m 232 #[.val (.int p0), .val (.ref b56'), .val (.int (20 : Int32)), .val (.ref (A 20)), .val (.int (0 : Int32)), .val (.int (0 : Int32))] [(.int (0 : Int32)), (.int (0 : Int32))])) (fun _ k => XS.iload X119.here hx rfl (hb hby at_230) rfl k) ?_
    refine own_go (B := T119.setTop (mkF m 235 #[.val (.int p0), .val (.ref b56'), .val (.int (20 : Int32)), .val (.ref (A 20)), .val (.int (0 : Int32)), .val (.int (0 : Int32))] [])) (fun _ k => XS.icmpNo X119.here hx rfl (hb hby at_232) rfl (by decide) k) ?_
    refine own_go (B := T119.setTop (mkF m 236 #[.val (.int p0), .val (.ref b56'), .val (.int (20 : Int32)), .val (.ref (A 20)), .val (.int (0 : Int32)), .val (.int (0 : Int32))] [(.int (1 : Int32))])) (fun _ k => XT.iconstV X119.here hx rfl (1 : Int32) (hb hby at_235) rfl k) ?_
    refine own_go (B := T119.setTop (mkF m 240 #[.val (.int p0), .val (.ref b56'), .val (.int (20 : Int32)), .val (.ref (A 20)), .val (.int (0 : Int32)), .val (.int (0 : Int32))] [(.int (1 : Int32))])) (fun _ k => XS.goto X119.here hx rfl (pc0 := 236) (pc' := 240) rfl (hb hby at_236) (by decide) (by decide) k) ?_
    exact own_ret X119 hx (t := .boolean) hrt rfl (Or.inl ⟨rfl, by simp, _, rfl⟩) (hb hby at_240) hlk ⟨rfl, N119⟩ (by decide) (by decide)
  · refine own_go (B := T56'.setTop (mkF m 198 #[.val (.int p0), .val (.ref b56'), .val (.int (21 : Int32)), .unset, .unset, .unset] [(.ref b56')])) (fun _ k => XS.aloadN X56'.here hx rfl (hb hby at_197) rfl rfl k) ?_
    refine own_go (B := T56'.setTop (mkF m 199 #[.val (.int p0), .val (.ref b56'), .val (.int (21 : Int32)), .unset, .unset, .unset] [(.int (21 : Int32)), (.ref b56')])) (fun _ k => XS.iloadN X56'.here hx rfl (hb hby at_198) rfl k) ?_
    obtain ⟨cl120, Ar120, q120a, q120b, q120c, q120d, q120e⟩ := id V56'
    have i120 := inb_of (j := (21 : Int32)) q120b ⟨by decide, by decide⟩
    refine own_go (B := T56'.setTop (mkF m 200 #[.val (.int p0), .val (.ref b56'), .val (.int (21 : Int32)), .unset, .unset, .unset] [(.ref (A 21))])) (fun _ k => X56'.aaload hx (j := (21 : Int32)) (v := (.ref (A 21))) (by rw [e56']; exact Ar120.1) (State.isArrayOf_alike hZ.alike Ar120.2.1) rfl Ar120.2.2 i120 (Has.at q120d i120 rfl) (g := (mkF m 199 #[.val (.int p0), .val (.ref b56'), .val (.int (21 : Int32)), .unset, .unset, .unset] [(.int (21 : Int32)), (.ref b56')])) rfl rfl (hb hby at_199) _ k) ?_
    refine own_go (B := T56'.setTop (mkF m 201 #[.val (.int p0), .val (.ref b56'), .val (.int (21 : Int32)), .val (.ref (A 21)), .unset, .unset] [])) (fun _ k => XS.astoreN X56'.here hx rfl (hb hby at_200) rfl rfl (l' := #[.val (.int p0), .val (.ref b56'), .val (.int (21 : Int32)), .val (.ref (A 21)), .unset, .unset]) rfl k) ?_
    refine own_go (B := T56'.setTop (mkF m 202 #[.val (.int p0), .val (.ref b56'), .val (.int (21 : Int32)), .val (.ref (A 21)), .unset, .unset] [(.ref (A 21))])) (fun _ k => XS.aloadN X56'.here hx rfl (hb hby at_201) rfl rfl k) ?_
    obtain ⟨cq121, kq121, q121a, q121b, q121c⟩ := isOf hZ e56' (E_COMPLEMENT.ext x56')
    obtain ⟨_, _, ⟨T121, L121, k121, n121⟩, -, X121, ⟨Lc121, hQ121, l121, y121, z121⟩, st121⟩ := X56'.virtualBack hx (y := (⟨"com/example/kilnbyte/kilnbyte/tree/Operator", "precedence", "()I"⟩ : MethodName)) (z := (⟨"com/example/kilnbyte/kilnbyte/tree/Operator", "precedence", "()I"⟩ : MethodName)) hown (mvT hZ (hw _ (List.mem_of_getElem? (i := 59) rfl))) (mvT hZ (hw _ (List.mem_of_getElem? (i := 60) rfl))) (notFace_of_selects (args := #[]) (mvT hZ (hw _ (List.mem_of_getElem? (i := 62) rfl)))) (mvT hZ (hw _ (List.mem_of_getElem? (i := 62) rfl))) (mvT hZ (hw _ (List.mem_of_getElem? (i := 61) rfl))) (by decide) (own_back (W := 0) (rm1_21 l Z a0 hw []  A hW h56' x56' ) hZ (hw _ (List.mem_of_getElem? (i := 63) rfl)) (hw _ (List.mem_of_getElem? (i := 3) rfl)) (by decide) (by decide)) q121a q121c (g := (mkF m 202 #[.val (.int p0), .val (.ref b56'), .val (.int (21 : Int32)), .val (.ref (A 21)), .unset, .unset] [(.ref (A 21))])) rfl (by rw [hml]; rfl) (Steps.refl _) (argsL := []) (rest := []) (lenOf pd_0 rfl) rfl (by show 2 * 0 + _ ≤ _; exact Nat.le_of_eq rfl) (hb hby at_202) (fun _ _ => ⟨rfl, e56', (by decide : 1 + 0 ≤ _), (by decide : 27 + 0 ≤ _)⟩)
    dsimp only [Pt.U, Pt.locs, Pt.cells, Pt.slots] at X121 l121 y121 z121 st121 hQ121
    subst l121 y121 z121
    obtain ⟨rfl, N121q, e121⟩ := hQ121
    have N121 := Fr.app N56' N121q
    refine own_go (B := T121.setTop (mkF m 205 #[.val (.int p0), .val (.ref b56'), .val (.int (21 : Int32)), .val (.ref (A 21)), .unset, .unset] [(.int (0 : Int32))])) (fun _ k => st121.trans k) ?_
    refine own_go (B := T121.setTop (mkF m 207 #[.val (.int p0), .val (.ref b56'), .val (.int (21 : Int32)), .val (.ref (A 21)), .val (.int (0 : Int32)), .unset] [])) (fun _ k => XS.istore X121.here hx rfl (hb hby at_205) rfl (l' := #[.val (.int p0), .val (.ref b56'), .val (.int (21 : Int32)), .val (.ref (A 21)), .val (.int (0 : Int32)), .unset]) rfl k) ?_
    refine own_go (B := T121.setTop (mkF m 209 #[.val (.int p0), .val (.ref b56'), .val (.int (21 : Int32)), .val (.ref (A 21)), .val (.int (0 : Int32)), .unset] [(.int (0 : Int32))])) (fun _ k => XS.iload X121.here hx rfl (hb hby at_207) rfl k) ?_
    refine own_go (B := T121.setTop (mkF m 210 #[.val (.int p0), .val (.ref b56'), .val (.int (21 : Int32)), .val (.ref (A 21)), .val (.int (0 : Int32)), .unset] [(.int (3 : Int32)), (.int (0 : Int32))])) (fun _ k => XT.iconstV X121.here hx rfl (3 : Int32) (hb hby at_209) rfl k) ?_
    refine own_go (B := T121.setTop (mkF m 223 #[.val (.int p0), .val (.ref b56'), .val (.int (21 : Int32)), .val (.ref (A 21)), .val (.int (0 : Int32)), .unset] [])) (fun _ k => XS.icmpYes X121.here hx rfl (pc0 := 210) (pc' := 223) rfl (hb hby at_210) rfl (by decide) (by decide) (by decide) k) ?_
    refine own_go (B := T121.setTop (mkF m 224 #[.val (.int p0), .val (.ref b56'), .val (.int (21 : Int32)), .val (.ref (A 21)), .val (.int (0 : Int32)), .unset] [(.int (0 : Int32))])) (fun _ k => XT.iconstV X121.here hx rfl (0 : Int32) (hb hby at_223) rfl k) ?_
    refine own_go (B := T121.setTop (mkF m 226 #[.val (.int p0), .val (.ref b56'), .val (.int (21 : Int32)), .val (.ref (A 21)), .val (.int (0 : Int32)), .val (.int (0 : Int32))] [])) (fun _ k => XS.istore X121.here hx rfl (hb hby at_224) rfl (l' := #[.val (.int p0), .val (.ref b56'), .val (.int (21 : Int32)), .val (.ref (A 21)), .val (.int (0 : Int32)), .val (.int (0 : Int32))]) rfl k) ?_
    refine own_go (B := T121.setTop (mkF m 227 #[.val (.int p0), .val (.ref b56'), .val (.int (21 : Int32)), .val (.ref (A 21)), .val (.int (0 : Int32)), .val (.int (0 : Int32))] [(.ref (A 21))])) (fun _ k => XS.aloadN X121.here hx rfl (hb hby at_226) rfl rfl k) ?_
    obtain ⟨cq122, kq122, q122a, q122b, q122c⟩ := isOf hZ e121 (E_COMPLEMENT.ext x56')
    obtain ⟨_, _, ⟨T122, L122, k122, n122⟩, -, X122, ⟨Lc122, hQ122, l122, y122, z122⟩, st122⟩ := X121.virtualBack hx (y := (⟨"com/example/kilnbyte/kilnbyte/tree/Operator", "isBitwise", "()Z"⟩ : MethodName)) (z := (⟨"com/example/kilnbyte/kilnbyte/tree/Operator", "isBitwise", "()Z"⟩ : MethodName)) hown (mvT hZ (hw _ (List.mem_of_getElem? (i := 66) rfl))) (mvT hZ (hw _ (List.mem_of_getElem? (i := 67) rfl))) (notFace_of_selects (args := #[]) (mvT hZ (hw _ (List.mem_of_getElem? (i := 69) rfl)))) (mvT hZ (hw _ (List.mem_of_getElem? (i := 69) rfl))) (mvT hZ (hw _ (List.mem_of_getElem? (i := 68) rfl))) (by decide) (own_back (W := 0) (rm2_21 l Z a0 hw []  A hW h56' x56' ) hZ (hw _ (List.mem_of_getElem? (i := 70) rfl)) (hw _ (List.mem_of_getElem? (i := 3) rfl)) (by decide) (by decide)) q122a q122c (g := (mkF m 227 #[.val (.int p0), .val (.ref b56'), .val (.int (21 : Int32)), .val (.ref (A 21)), .val (.int (0 : Int32)), .val (.int (0 : Int32))] [(.ref (A 21))])) rfl (by rw [hml]; rfl) (Steps.refl _) (argsL := []) (rest := []) (lenOf pd_1 rfl) rfl (by show 2 * 0 + _ ≤ _; exact Nat.le_of_eq rfl) (hb hby at_227) (fun _ _ => ⟨rfl, e121, (by decide : 1 + 0 ≤ _), (by decide : 27 + 0 ≤ _)⟩)
    dsimp only [Pt.U, Pt.locs, Pt.cells, Pt.slots] at X122 l122 y122 z122 st122 hQ122
    subst l122 y122 z122
    obtain ⟨rfl, N122q, e122⟩ := hQ122
    have N122 := Fr.app N121 N122q
    refine own_go (B := T122.setTop (mkF m 230 #[.val (.int p0), .val (.ref b56'), .val (.int (21 : Int32)), .val (.ref (A 21)), .val (.int (0 : Int32)), .val (.int (0 : Int32))] [(.int (0 : Int32))])) (fun _ k => st122.trans k) ?_
    refine own_go (B := T122.setTop (mkF m 232 #[.val (.int p0), .val (.ref b56'), .val (.int (21 : Int32)), .val (.ref (A 21)), .val (.int (0 : Int32)), .val (.int (0 : Int32))] [(.int (0 : Int32)), (.int (0 : Int32))])) (fun _ k => XS.iload X122.here hx rfl (hb hby at_230) rfl k) ?_
    refine own_go (B := T122.setTop (mkF m 235 #[.val (.int p0), .val (.ref b56'), .val (.int (21 : Int32)), .val (.ref (A 21)), .val (.int (0 : Int32)), .val (.int (0 : Int32))] [])) (fun _ k => XS.icmpNo X122.here hx rfl (hb hby at_232) rfl (by decide) k) ?_
    refine own_go (B := T122.setTop (mkF m 236 #[.val (.int p0), .val (.ref b56'), .val (.int (21 : Int32)), .val (.ref (A 21)), .val (.int (0 : Int32)), .val (.int (0 : Int32))] [(.int (1 : Int32))])) (fun _ k => XT.iconstV X122.here hx rfl (1 : Int32) (hb hby at_235) rfl k) ?_
    refine own_go (B := T122.setTop (mkF m 240 #[.val (.int p0), .val (.ref b56'), .val (.int (21 : Int32)), .val (.ref (A 21)), .val (.int (0 : Int32)), .val (.int (0 : Int32))] [(.int (1 : Int32))])) (fun _ k => XS.goto X122.here hx rfl (pc0 := 236) (pc' := 240) rfl (hb hby at_236) (by decide) (by decide) k) ?_
    exact own_ret X122 hx (t := .boolean) hrt rfl (Or.inl ⟨rfl, by simp, _, rfl⟩) (hb hby at_240) hlk ⟨rfl, N122⟩ (by decide) (by decide)
  · refine own_go (B := T56'.setTop (mkF m 198 #[.val (.int p0), .val (.ref b56'), .val (.int (22 : Int32)), .unset, .unset, .unset] [(.ref b56')])) (fun _ k => XS.aloadN X56'.here hx rfl (hb hby at_197) rfl rfl k) ?_
    refine own_go (B := T56'.setTop (mkF m 199 #[.val (.int p0), .val (.ref b56'), .val (.int (22 : Int32)), .unset, .unset, .unset] [(.int (22 : Int32)), (.ref b56')])) (fun _ k => XS.iloadN X56'.here hx rfl (hb hby at_198) rfl k) ?_
    obtain ⟨cl123, Ar123, q123a, q123b, q123c, q123d, q123e⟩ := id V56'
    have i123 := inb_of (j := (22 : Int32)) q123b ⟨by decide, by decide⟩
    refine own_go (B := T56'.setTop (mkF m 200 #[.val (.int p0), .val (.ref b56'), .val (.int (22 : Int32)), .unset, .unset, .unset] [(.ref (A 22))])) (fun _ k => X56'.aaload hx (j := (22 : Int32)) (v := (.ref (A 22))) (by rw [e56']; exact Ar123.1) (State.isArrayOf_alike hZ.alike Ar123.2.1) rfl Ar123.2.2 i123 (Has.at q123d i123 rfl) (g := (mkF m 199 #[.val (.int p0), .val (.ref b56'), .val (.int (22 : Int32)), .unset, .unset, .unset] [(.int (22 : Int32)), (.ref b56')])) rfl rfl (hb hby at_199) _ k) ?_
    refine own_go (B := T56'.setTop (mkF m 201 #[.val (.int p0), .val (.ref b56'), .val (.int (22 : Int32)), .val (.ref (A 22)), .unset, .unset] [])) (fun _ k => XS.astoreN X56'.here hx rfl (hb hby at_200) rfl rfl (l' := #[.val (.int p0), .val (.ref b56'), .val (.int (22 : Int32)), .val (.ref (A 22)), .unset, .unset]) rfl k) ?_
    refine own_go (B := T56'.setTop (mkF m 202 #[.val (.int p0), .val (.ref b56'), .val (.int (22 : Int32)), .val (.ref (A 22)), .unset, .unset] [(.ref (A 22))])) (fun _ k => XS.aloadN X56'.here hx rfl (hb hby at_201) rfl rfl k) ?_
    obtain ⟨cq124, kq124, q124a, q124b, q124c⟩ := isOf hZ e56' (E_NOT.ext x56')
    obtain ⟨_, _, ⟨T124, L124, k124, n124⟩, -, X124, ⟨Lc124, hQ124, l124, y124, z124⟩, st124⟩ := X56'.virtualBack hx (y := (⟨"com/example/kilnbyte/kilnbyte/tree/Operator", "precedence", "()I"⟩ : MethodName)) (z := (⟨"com/example/kilnbyte/kilnbyte/tree/Operator", "precedence", "()I"⟩ : MethodName)) hown (mvT hZ (hw _ (List.mem_of_getElem? (i := 59) rfl))) (mvT hZ (hw _ (List.mem_of_getElem? (i := 60) rfl))) (notFace_of_selects (args := #[]) (mvT hZ (hw _ (List.mem_of_getElem? (i := 62) rfl)))) (mvT hZ (hw _ (List.mem_of_getElem? (i := 62) rfl))) (mvT hZ (hw _ (List.mem_of_getElem? (i := 61) rfl))) (by decide) (own_back (W := 0) (rm1_22 l Z a0 hw []  A hW h56' x56' ) hZ (hw _ (List.mem_of_getElem? (i := 63) rfl)) (hw _ (List.mem_of_getElem? (i := 3) rfl)) (by decide) (by decide)) q124a q124c (g := (mkF m 202 #[.val (.int p0), .val (.ref b56'), .val (.int (22 : Int32)), .val (.ref (A 22)), .unset, .unset] [(.ref (A 22))])) rfl (by rw [hml]; rfl) (Steps.refl _) (argsL := []) (rest := []) (lenOf pd_0 rfl) rfl (by show 2 * 0 + _ ≤ _; exact Nat.le_of_eq rfl) (hb hby at_202) (fun _ _ => ⟨rfl, e56', (by decide : 1 + 0 ≤ _), (by decide : 27 + 0 ≤ _)⟩)
    dsimp only [Pt.U, Pt.locs, Pt.cells, Pt.slots] at X124 l124 y124 z124 st124 hQ124
    subst l124 y124 z124
    obtain ⟨rfl, N124q, e124⟩ := hQ124
    have N124 := Fr.app N56' N124q
    refine own_go (B := T124.setTop (mkF m 205 #[.val (.int p0), .val (.ref b56'), .val (.int (22 : Int32)), .val (.ref (A 22)), .unset, .unset] [(.int (0 : Int32))])) (fun _ k => st124.trans k) ?_
    refine own_go (B := T124.setTop (mkF m 207 #[.val (.int p0), .val (.ref b56'), .val (.int (22 : Int32)), .val (.ref (A 22)), .val (.int (0 : Int32)), .unset] [])) (fun _ k => XS.istore X124.here hx rfl (hb hby at_205) rfl (l' := #[.val (.int p0), .val (.ref b56'), .val (.int (22 : Int32)), .val (.ref (A 22)), .val (.int (0 : Int32)), .unset]) rfl k) ?_
    refine own_go (B := T124.setTop (mkF m 209 #[.val (.int p0), .val (.ref b56'), .val (.int (22 : Int32)), .val (.ref (A 22)), .val (.int (0 : Int32)), .unset] [(.int (0 : Int32))])) (fun _ k => XS.iload X124.here hx rfl (hb hby at_207) rfl k) ?_
    refine own_go (B := T124.setTop (mkF m 210 #[.val (.int p0), .val (.ref b56'), .val (.int (22 : Int32)), .val (.ref (A 22)), .val (.int (0 : Int32)), .unset] [(.int (3 : Int32)), (.int (0 : Int32))])) (fun _ k => XT.iconstV X124.here hx rfl (3 : Int32) (hb hby at_209) rfl k) ?_
    refine own_go (B := T124.setTop (mkF m 223 #[.val (.int p0), .val (.ref b56'), .val (.int (22 : Int32)), .val (.ref (A 22)), .val (.int (0 : Int32)), .unset] [])) (fun _ k => XS.icmpYes X124.here hx rfl (pc0 := 210) (pc' := 223) rfl (hb hby at_210) rfl (by decide) (by decide) (by decide) k) ?_
    refine own_go (B := T124.setTop (mkF m 224 #[.val (.int p0), .val (.ref b56'), .val (.int (22 : Int32)), .val (.ref (A 22)), .val (.int (0 : Int32)), .unset] [(.int (0 : Int32))])) (fun _ k => XT.iconstV X124.here hx rfl (0 : Int32) (hb hby at_223) rfl k) ?_
    refine own_go (B := T124.setTop (mkF m 226 #[.val (.int p0), .val (.ref b56'), .val (.int (22 : Int32)), .val (.ref (A 22)), .val (.int (0 : Int32)), .val (.int (0 : Int32))] [])) (fun _ k => XS.istore X124.here hx rfl (hb hby at_224) rfl (l' := #[.val (.int p0), .val (.ref b56'), .val (.int (22 : Int32)), .val (.ref (A 22)), .val (.int (0 : Int32)), .val (.int (0 : Int32))]) rfl k) ?_
    refine own_go (B := T124.setTop (mkF m 227 #[.val (.int p0), .val (.ref b56'), .val (.int (22 : Int32)), .val (.ref (A 22)), .val (.int (0 : Int32)), .val (.int (0 : Int32))] [(.ref (A 22))])) (fun _ k => XS.aloadN X124.here hx rfl (hb hby at_226) rfl rfl k) ?_
    obtain ⟨cq125, kq125, q125a, q125b, q125c⟩ := isOf hZ e124 (E_NOT.ext x56')
    obtain ⟨_, _, ⟨T125, L125, k125, n125⟩, -, X125, ⟨Lc125, hQ125, l125, y125, z125⟩, st125⟩ := X124.virtualBack hx (y := (⟨"com/example/kilnbyte/kilnbyte/tree/Operator", "isBitwise", "()Z"⟩ : MethodName)) (z := (⟨"com/example/kilnbyte/kilnbyte/tree/Operator", "isBitwise", "()Z"⟩ : MethodName)) hown (mvT hZ (hw _ (List.mem_of_getElem? (i := 66) rfl))) (mvT hZ (hw _ (List.mem_of_getElem? (i := 67) rfl))) (notFace_of_selects (args := #[]) (mvT hZ (hw _ (List.mem_of_getElem? (i := 69) rfl)))) (mvT hZ (hw _ (List.mem_of_getElem? (i := 69) rfl))) (mvT hZ (hw _ (List.mem_of_getElem? (i := 68) rfl))) (by decide) (own_back (W := 0) (rm2_22 l Z a0 hw []  A hW h56' x56' ) hZ (hw _ (List.mem_of_getElem? (i := 70) rfl)) (hw _ (List.mem_of_getElem? (i := 3) rfl)) (by decide) (by decide)) q125a q125c (g := (mkF m 227 #[.val (.int p0), .val (.ref b56'), .val (.int (22 : Int32)), .val (.ref (A 22)), .val (.int (0 : Int32)), .val (.int (0 : Int32))] [(.ref (A 22))])) rfl (by rw [hml]; rfl) (Steps.refl _) (argsL := []) (rest := []) (lenOf pd_1 rfl) rfl (by show 2 * 0 + _ ≤ _; exact Nat.le_of_eq rfl) (hb hby at_227) (fun _ _ => ⟨rfl, e124, (by decide : 1 + 0 ≤ _), (by decide : 27 + 0 ≤ _)⟩)
    dsimp only [Pt.U, Pt.locs, Pt.cells, Pt.slots] at X125 l125 y125 z125 st125 hQ125
    subst l125 y125 z125
    obtain ⟨rfl, N125q, e125⟩ := hQ125
    have N125 := Fr.app N124 N125q
    refine own_go (B := T125.setTop (mkF m 230 #[.val (.int p0), .val (.ref b56'), .val (.int (22 : Int32)), .val (.ref (A 22)), .val (.int (0 : Int32)), .val (.int (0 : Int32))] [(.int (0 : Int32))])) (fun _ k => st125.trans k) ?_
    refine own_go (B := T125.setTop (mkF m 232 #[.val (.int p0), .val (.ref b56'), .val (.int (22 : Int32)), .val (.ref (A 22)), .val (.int (0 : Int32)), .val (.int (0 : Int32))] [(.int (0 : Int32)), (.int (0 : Int32))])) (fun _ k => XS.iload X125.here hx rfl (hb hby at_230) rfl k) ?_
    refine own_go (B := T125.setTop (mkF m 235 #[.val (.int p0), .val (.ref b56'), .val (.int (22 : Int32)), .val (.ref (A 22)), .val (.int (0 : Int32)), .val (.int (0 : Int32))] [])) (fun _ k => XS.icmpNo X125.here hx rfl (hb hby at_232) rfl (by decide) k) ?_
    refine own_go (B := T125.setTop (mkF m 236 #[.val (.int p0), .val (.ref b56'), .val (.int (22 : Int32)), .val (.ref (A 22)), .val (.int (0 : Int32)), .val (.int (0 : Int32))] [(.int (1 : Int32))])) (fun _ k => XT.iconstV X125.here hx rfl (1 : Int32) (hb hby at_235) rfl k) ?_
    refine own_go (B := T125.setTop (mkF m 240 #[.val (.int p0), .val (.ref b56'), .val (.int (22 : Int32)), .val (.ref (A 22)), .val (.int (0 : Int32)), .val (.int (0 : Int32))] [(.int (1 : Int32))])) (fun _ k => XS.goto X125.here hx rfl (pc0 := 236) (pc' := 240) rfl (hb hby at_236) (by decide) (by decide) k) ?_
    exact own_ret X125 hx (t := .boolean) hrt rfl (Or.inl ⟨rfl, by simp, _, rfl⟩) (hb hby at_240) hlk ⟨rfl, N125⟩ (by decide) (by decide)
  · refine own_go (B := T56'.setTop (mkF m 198 #[.val (.int p0), .val (.ref b56'), .val (.int (23 : Int32)), .unset, .unset, .unset] [(.ref b56')])) (fun _ k => XS.aloadN X56'.here hx rfl (hb hby at_197) rfl rfl k) ?_
    refine own_go (B := T56'.setTop (mkF m 199 #[.val (.int p0), .val (.ref b56'), .val (.int (23 : Int32)), .unset, .unset, .unset] [(.int (23 : Int32)), (.ref b56')])) (fun _ k => XS.iloadN X56'.here hx rfl (hb hby at_198) rfl k) ?_
    obtain ⟨cl126, Ar126, q126a, q126b, q126c, q126d, q126e⟩ := id V56'
    have i126 := inb_of (j := (23 : Int32)) q126b ⟨by decide, by decide⟩
    refine own_go (B := T56'.setTop (mkF m 200 #[.val (.int p0), .val (.ref b56'), .val (.int (23 : Int32)), .unset, .unset, .unset] [(.ref (A 23))])) (fun _ k => X56'.aaload hx (j := (23 : Int32)) (v := (.ref (A 23))) (by rw [e56']; exact Ar126.1) (State.isArrayOf_alike hZ.alike Ar126.2.1) rfl Ar126.2.2 i126 (Has.at q126d i126 rfl) (g := (mkF m 199 #[.val (.int p0), .val (.ref b56'), .val (.int (23 : Int32)), .unset, .unset, .unset] [(.int (23 : Int32)), (.ref b56')])) rfl rfl (hb hby at_199) _ k) ?_
    refine own_go (B := T56'.setTop (mkF m 201 #[.val (.int p0), .val (.ref b56'), .val (.int (23 : Int32)), .val (.ref (A 23)), .unset, .unset] [])) (fun _ k => XS.astoreN X56'.here hx rfl (hb hby at_200) rfl rfl (l' := #[.val (.int p0), .val (.ref b56'), .val (.int (23 : Int32)), .val (.ref (A 23)), .unset, .unset]) rfl k) ?_
    refine own_go (B := T56'.setTop (mkF m 202 #[.val (.int p0), .val (.ref b56'), .val (.int (23 : Int32)), .val (.ref (A 23)), .unset, .unset] [(.ref (A 23))])) (fun _ k => XS.aloadN X56'.here hx rfl (hb hby at_201) rfl rfl k) ?_
    obtain ⟨cq127, kq127, q127a, q127b, q127c⟩ := isOf hZ e56' (E_PRE_INCREMENT.ext x56')
    obtain ⟨_, _, ⟨T127, L127, k127, n127⟩, -, X127, ⟨Lc127, hQ127, l127, y127, z127⟩, st127⟩ := X56'.virtualBack hx (y := (⟨"com/example/kilnbyte/kilnbyte/tree/Operator", "precedence", "()I"⟩ : MethodName)) (z := (⟨"com/example/kilnbyte/kilnbyte/tree/Operator", "precedence", "()I"⟩ : MethodName)) hown (mvT hZ (hw _ (List.mem_of_getElem? (i := 59) rfl))) (mvT hZ (hw _ (List.mem_of_getElem? (i := 60) rfl))) (notFace_of_selects (args := #[]) (mvT hZ (hw _ (List.mem_of_getElem? (i := 62) rfl)))) (mvT hZ (hw _ (List.mem_of_getElem? (i := 62) rfl))) (mvT hZ (hw _ (List.mem_of_getElem? (i := 61) rfl))) (by decide) (own_back (W := 0) (rm1_23 l Z a0 hw []  A hW h56' x56' ) hZ (hw _ (List.mem_of_getElem? (i := 63) rfl)) (hw _ (List.mem_of_getElem? (i := 3) rfl)) (by decide) (by decide)) q127a q127c (g := (mkF m 202 #[.val (.int p0), .val (.ref b56'), .val (.int (23 : Int32)), .val (.ref (A 23)), .unset, .unset] [(.ref (A 23))])) rfl (by rw [hml]; rfl) (Steps.refl _) (argsL := []) (rest := []) (lenOf pd_0 rfl) rfl (by show 2 * 0 + _ ≤ _; exact Nat.le_of_eq rfl) (hb hby at_202) (fun _ _ => ⟨rfl, e56', (by decide : 1 + 0 ≤ _), (by decide : 27 + 0 ≤ _)⟩)
    dsimp only [Pt.U, Pt.locs, Pt.cells, Pt.slots] at X127 l127 y127 z127 st127 hQ127
    subst l127 y127 z127
    obtain ⟨rfl, N127q, e127⟩ := hQ127
    have N127 := Fr.app N56' N127q
    refine own_go (B := T127.setTop (mkF m 205 #[.val (.int p0), .val (.ref b56'), .val (.int (23 : Int32)), .val (.ref (A 23)), .unset, .unset] [(.int (0 : Int32))])) (fun _ k => st127.trans k) ?_
    refine own_go (B := T127.setTop (mkF m 207 #[.val (.int p0), .val (.ref b56'), .val (.int (23 : Int32)), .val (.ref (A 23)), .val (.int (0 : Int32)), .unset] [])) (fun _ k => XS.istore X127.here hx rfl (hb hby at_205) rfl (l' := #[.val (.int p0), .val (.ref b56'), .val (.int (23 : Int32)), .val (.ref (A 23)), .val (.int (0 : Int32)), .unset]) rfl k) ?_
    refine own_go (B := T127.setTop (mkF m 209 #[.val (.int p0), .val (.ref b56'), .val (.int (23 : Int32)), .val (.ref (A 23)), .val (.int (0 : Int32)), .unset] [(.int (0 : Int32))])) (fun _ k => XS.iload X127.here hx rfl (hb hby at_207) rfl k) ?_
    refine own_go (B := T127.setTop (mkF m 210 #[.val (.int p0), .val (.ref b56'), .val (.int (23 : Int32)), .val (.ref (A 23)), .val (.int (0 : Int32)), .unset] [(.int (3 : Int32)), (.int (0 : Int32))])) (fun _ k => XT.iconstV X127.here hx rfl (3 : Int32) (hb hby at_209) rfl k) ?_
    refine own_go (B := T127.setTop (mkF m 223 #[.val (.int p0), .val (.ref b56'), .val (.int (23 : Int32)), .val (.ref (A 23)), .val (.int (0 : Int32)), .unset] [])) (fun _ k => XS.icmpYes X127.here hx rfl (pc0 := 210) (pc' := 223) rfl (hb hby at_210) rfl (by decide) (by decide) (by decide) k) ?_
    refine own_go (B := T127.setTop (mkF m 224 #[.val (.int p0), .val (.ref b56'), .val (.int (23 : Int32)), .val (.ref (A 23)), .val (.int (0 : Int32)), .unset] [(.int (0 : Int32))])) (fun _ k => XT.iconstV X127.here hx rfl (0 : Int32) (hb hby at_223) rfl k) ?_
    refine own_go (B := T127.setTop (mkF m 226 #[.val (.int p0), .val (.ref b56'), .val (.int (23 : Int32)), .val (.ref (A 23)), .val (.int (0 : Int32)), .val (.int (0 : Int32))] [])) (fun _ k => XS.istore X127.here hx rfl (hb hby at_224) rfl (l' := #[.val (.int p0), .val (.ref b56'), .val (.int (23 : Int32)), .val (.ref (A 23)), .val (.int (0 : Int32)), .val (.int (0 : Int32))]) rfl k) ?_
    refine own_go (B := T127.setTop (mkF m 227 #[.val (.int p0), .val (.ref b56'), .val (.int (23 : Int32)), .val (.ref (A 23)), .val (.int (0 : Int32)), .val (.int (0 : Int32))] [(.ref (A 23))])) (fun _ k => XS.aloadN X127.here hx rfl (hb hby at_226) rfl rfl k) ?_
    obtain ⟨cq128, kq128, q128a, q128b, q128c⟩ := isOf hZ e127 (E_PRE_INCREMENT.ext x56')
    obtain ⟨_, _, ⟨T128, L128, k128, n128⟩, -, X128, ⟨Lc128, hQ128, l128, y128, z128⟩, st128⟩ := X127.virtualBack hx (y := (⟨"com/example/kilnbyte/kilnbyte/tree/Operator", "isBitwise", "()Z"⟩ : MethodName)) (z := (⟨"com/example/kilnbyte/kilnbyte/tree/Operator", "isBitwise", "()Z"⟩ : MethodName)) hown (mvT hZ (hw _ (List.mem_of_getElem? (i := 66) rfl))) (mvT hZ (hw _ (List.mem_of_getElem? (i := 67) rfl))) (notFace_of_selects (args := #[]) (mvT hZ (hw _ (List.mem_of_getElem? (i := 69) rfl)))) (mvT hZ (hw _ (List.mem_of_getElem? (i := 69) rfl))) (mvT hZ (hw _ (List.mem_of_getElem? (i := 68) rfl))) (by decide) (own_back (W := 0) (rm2_23 l Z a0 hw []  A hW h56' x56' ) hZ (hw _ (List.mem_of_getElem? (i := 70) rfl)) (hw _ (List.mem_of_getElem? (i := 3) rfl)) (by decide) (by decide)) q128a q128c (g := (mkF m 227 #[.val (.int p0), .val (.ref b56'), .val (.int (23 : Int32)), .val (.ref (A 23)), .val (.int (0 : Int32)), .val (.int (0 : Int32))] [(.ref (A 23))])) rfl (by rw [hml]; rfl) (Steps.refl _) (argsL := []) (rest := []) (lenOf pd_1 rfl) rfl (by show 2 * 0 + _ ≤ _; exact Nat.le_of_eq rfl) (hb hby at_227) (fun _ _ => ⟨rfl, e127, (by decide : 1 + 0 ≤ _), (by decide : 27 + 0 ≤ _)⟩)
    dsimp only [Pt.U, Pt.locs, Pt.cells, Pt.slots] at X128 l128 y128 z128 st128 hQ128
    subst l128 y128 z128
    obtain ⟨rfl, N128q, e128⟩ := hQ128
    have N128 := Fr.app N127 N128q
    refine own_go (B := T128.setTop (mkF m 230 #[.val (.int p0), .val (.ref b56'), .val (.int (23 : Int32)), .val (.ref (A 23)), .val (.int (0 : Int32)), .val (.int (0 : Int32))] [(.int (0 : Int32))])) (fun _ k => st128.trans k) ?_
    refine own_go (B := T128.setTop (mkF m 232 #[.val (.int p0), .val (.ref b56'), .val (.int (23 : Int32)), .val (.ref (A 23)), .val (.int (0 : Int32)), .val (.int (0 : Int32))] [(.int (0 : Int32)), (.int (0 : Int32))])) (fun _ k => XS.iload X128.here hx rfl (hb hby at_230) rfl k) ?_
    refine own_go (B := T128.setTop (mkF m 235 #[.val (.int p0), .val (.ref b56'), .val (.int (23 : Int32)), .val (.ref (A 23)), .val (.int (0 : Int32)), .val (.int (0 : Int32))] [])) (fun _ k => XS.icmpNo X128.here hx rfl (hb hby at_232) rfl (by decide) k) ?_
    refine own_go (B := T128.setTop (mkF m 236 #[.val (.int p0), .val (.ref b56'), .val (.int (23 : Int32)), .val (.ref (A 23)), .val (.int (0 : Int32)), .val (.int (0 : Int32))] [(.int (1 : Int32))])) (fun _ k => XT.iconstV X128.here hx rfl (1 : Int32) (hb hby at_235) rfl k) ?_
    refine own_go (B := T128.setTop (mkF m 240 #[.val (.int p0), .val (.ref b56'), .val (.int (23 : Int32)), .val (.ref (A 23)), .val (.int (0 : Int32)), .val (.int (0 : Int32))] [(.int (1 : Int32))])) (fun _ k => XS.goto X128.here hx rfl (pc0 := 236) (pc' := 240) rfl (hb hby at_236) (by decide) (by decide) k) ?_
    exact own_ret X128 hx (t := .boolean) hrt rfl (Or.inl ⟨rfl, by simp, _, rfl⟩) (hb hby at_240) hlk ⟨rfl, N128⟩ (by decide) (by decide)
  · refine own_go (B := T56'.setTop (mkF m 198 #[.val (.int p0), .val (.ref b56'), .val (.int (24 : Int32)), .unset, .unset, .unset] [(.ref b56')])) (fun _ k => XS.aloadN X56'.here hx rfl (hb hby at_197) rfl rfl k) ?_
    refine own_go (B := T56'.setTop (mkF m 199 #[.val (.int p0), .val (.ref b56'), .val (.int (24 : Int32)), .unset, .unset, .unset] [(.int (24 : Int32)), (.ref b56')])) (fun _ k => XS.iloadN X56'.here hx rfl (hb hby at_198) rfl k) ?_
    obtain ⟨cl129, Ar129, q129a, q129b, q129c, q129d, q129e⟩ := id V56'
    have i129 := inb_of (j := (24 : Int32)) q129b ⟨by decide, by decide⟩
    refine own_go (B := T56'.setTop (mkF m 200 #[.val (.int p0), .val (.ref b56'), .val (.int (24 : Int32)), .unset, .unset, .unset] [(.ref (A 24))])) (fun _ k => X56'.aaload hx (j := (24 : Int32)) (v := (.ref (A 24))) (by rw [e56']; exact Ar129.1) (State.isArrayOf_alike hZ.alike Ar129.2.1) rfl Ar129.2.2 i129 (Has.at q129d i129 rfl) (g := (mkF m 199 #[.val (.int p0), .val (.ref b56'), .val (.int (24 : Int32)), .unset, .unset, .unset] [(.int (24 : Int32)), (.ref b56')])) rfl rfl (hb hby at_199) _ k) ?_
    refine own_go (B := T56'.setTop (mkF m 201 #[.val (.int p0), .val (.ref b56'), .val (.int (24 : Int32)), .val (.ref (A 24)), .unset, .unset] [])) (fun _ k => XS.astoreN X56'.here hx rfl (hb hby at_200) rfl rfl (l' := #[.val (.int p0), .val (.ref b56'), .val (.int (24 : Int32)), .val (.ref (A 24)), .unset, .unset]) rfl k) ?_
    refine own_go (B := T56'.setTop (mkF m 202 #[.val (.int p0), .val (.ref b56'), .val (.int (24 : Int32)), .val (.ref (A 24)), .unset, .unset] [(.ref (A 24))])) (fun _ k => XS.aloadN X56'.here hx rfl (hb hby at_201) rfl rfl k) ?_
    obtain ⟨cq130, kq130, q130a, q130b, q130c⟩ := isOf hZ e56' (E_PRE_DECREMENT.ext x56')
    obtain ⟨_, _, ⟨T130, L130, k130, n130⟩, -, X130, ⟨Lc130, hQ130, l130, y130, z130⟩, st130⟩ := X56'.virtualBack hx (y := (⟨"com/example/kilnbyte/kilnbyte/tree/Operator", "precedence", "()I"⟩ : MethodName)) (z := (⟨"com/example/kilnbyte/kilnbyte/tree/Operator", "precedence", "()I"⟩ : MethodName)) hown (mvT hZ (hw _ (List.mem_of_getElem? (i := 59) rfl))) (mvT hZ (hw _ (List.mem_of_getElem? (i := 60) rfl))) (notFace_of_selects (args := #[]) (mvT hZ (hw _ (List.mem_of_getElem? (i := 62) rfl)))) (mvT hZ (hw _ (List.mem_of_getElem? (i := 62) rfl))) (mvT hZ (hw _ (List.mem_of_getElem? (i := 61) rfl))) (by decide) (own_back (W := 0) (rm1_24 l Z a0 hw []  A hW h56' x56' ) hZ (hw _ (List.mem_of_getElem? (i := 63) rfl)) (hw _ (List.mem_of_getElem? (i := 3) rfl)) (by decide) (by decide)) q130a q130c (g := (mkF m 202 #[.val (.int p0), .val (.ref b56'), .val (.int (24 : Int32)), .val (.ref (A 24)), .unset, .unset] [(.ref (A 24))])) rfl (by rw [hml]; rfl) (Steps.refl _) (argsL := []) (rest := []) (lenOf pd_0 rfl) rfl (by show 2 * 0 + _ ≤ _; exact Nat.le_of_eq rfl) (hb hby at_202) (fun _ _ => ⟨rfl, e56', (by decide : 1 + 0 ≤ _), (by decide : 27 + 0 ≤ _)⟩)
    dsimp only [Pt.U, Pt.locs, Pt.cells, Pt.slots] at X130 l130 y130 z130 st130 hQ130
    subst l130 y130 z130
    obtain ⟨rfl, N130q, e130⟩ := hQ130
    have N130 := Fr.app N56' N130q
    refine own_go (B := T130.setTop (mkF m 205 #[.val (.int p0), .val (.ref b56'), .val (.int (24 : Int32)), .val (.ref (A 24)), .unset, .unset] [(.int (0 : Int32))])) (fun _ k => st130.trans k) ?_
    refine own_go (B := T130.setTop (mkF m 207 #[.val (.int p0), .val (.ref b56'), .val (.int (24 : Int32)), .val (.ref (A 24)), .val (.int (0 : Int32)), .unset] [])) (fun _ k => XS.istore X130.here hx rfl (hb hby at_205) rfl (l' := #[.val (.int p0), .val (.ref b56'), .val (.int (24 : Int32)), .val (.ref (A 24)), .val (.int (0 : Int32)), .unset]) rfl k) ?_
    refine own_go (B := T130.setTop (mkF m 209 #[.val (.int p0), .val (.ref b56'), .val (.int (24 : Int32)), .val (.ref (A 24)), .val (.int (0 : Int32)), .unset] [(.int (0 : Int32))])) (fun _ k => XS.iload X130.here hx rfl (hb hby at_207) rfl k) ?_
    refine own_go (B := T130.setTop (mkF m 210 #[.val (.int p0), .val (.ref b56'), .val (.int (24 : Int32)), .val (.ref (A 24)), .val (.int (0 : Int32)), .unset] [(.int (3 : Int32)), (.int (0 : Int32))])) (fun _ k => XT.iconstV X130.here hx rfl (3 : Int32) (hb hby at_209) rfl k) ?_
    refine own_go (B := T130.setTop (mkF m 223 #[.val (.int p0), .val (.ref b56'), .val (.int (24 : Int32)), .val (.ref (A 24)), .val (.int (0 : Int32)), .unset] [])) (fun _ k => XS.icmpYes X130.here hx rfl (pc0 := 210) (pc' := 223) rfl (hb hby at_210) rfl (by decide) (by decide) (by decide) k) ?_
    refine own_go (B := T130.setTop (mkF m 224 #[.val (.int p0), .val (.ref b56'), .val (.int (24 : Int32)), .val (.ref (A 24)), .val (.int (0 : Int32)), .unset] [(.int (0 : Int32))])) (fun _ k => XT.iconstV X130.here hx rfl (0 : Int32) (hb hby at_223) rfl k) ?_
    refine own_go (B := T130.setTop (mkF m 226 #[.val (.int p0), .val (.ref b56'), .val (.int (24 : Int32)), .val (.ref (A 24)), .val (.int (0 : Int32)), .val (.int (0 : Int32))] [])) (fun _ k => XS.istore X130.here hx rfl (hb hby at_224) rfl (l' := #[.val (.int p0), .val (.ref b56'), .val (.int (24 : Int32)), .val (.ref (A 24)), .val (.int (0 : Int32)), .val (.int (0 : Int32))]) rfl k) ?_
    refine own_go (B := T130.setTop (mkF m 227 #[.val (.int p0), .val (.ref b56'), .val (.int (24 : Int32)), .val (.ref (A 24)), .val (.int (0 : Int32)), .val (.int (0 : Int32))] [(.ref (A 24))])) (fun _ k => XS.aloadN X130.here hx rfl (hb hby at_226) rfl rfl k) ?_
    obtain ⟨cq131, kq131, q131a, q131b, q131c⟩ := isOf hZ e130 (E_PRE_DECREMENT.ext x56')
    obtain ⟨_, _, ⟨T131, L131, k131, n131⟩, -, X131, ⟨Lc131, hQ131, l131, y131, z131⟩, st131⟩ := X130.virtualBack hx (y := (⟨"com/example/kilnbyte/kilnbyte/tree/Operator", "isBitwise", "()Z"⟩ : MethodName)) (z := (⟨"com/example/kilnbyte/kilnbyte/tree/Operator", "isBitwise", "()Z"⟩ : MethodName)) hown (mvT hZ (hw _ (List.mem_of_getElem? (i := 66) rfl))) (mvT hZ (hw _ (List.mem_of_getElem? (i := 67) rfl))) (notFace_of_selects (args := #[]) (mvT hZ (hw _ (List.mem_of_getElem? (i := 69) rfl)))) (mvT hZ (hw _ (List.mem_of_getElem? (i := 69) rfl))) (mvT hZ (hw _ (List.mem_of_getElem? (i := 68) rfl))) (by decide) (own_back (W := 0) (rm2_24 l Z a0 hw []  A hW h56' x56' ) hZ (hw _ (List.mem_of_getElem? (i := 70) rfl)) (hw _ (List.mem_of_getElem? (i := 3) rfl)) (by decide) (by decide)) q131a q131c (g := (mkF m 227 #[.val (.int p0), .val (.ref b56'), .val (.int (24 : Int32)), .val (.ref (A 24)), .val (.int (0 : Int32)), .val (.int (0 : Int32))] [(.ref (A 24))])) rfl (by rw [hml]; rfl) (Steps.refl _) (argsL := []) (rest := []) (lenOf pd_1 rfl) rfl (by show 2 * 0 + _ ≤ _; exact Nat.le_of_eq rfl) (hb hby at_227) (fun _ _ => ⟨rfl, e130, (by decide : 1 + 0 ≤ _), (by decide : 27 + 0 ≤ _)⟩)
    dsimp only [Pt.U, Pt.locs, Pt.cells, Pt.slots] at X131 l131 y131 z131 st131 hQ131
    subst l131 y131 z131
    obtain ⟨rfl, N131q, e131⟩ := hQ131
    have N131 := Fr.app N130 N131q
    refine own_go (B := T131.setTop (mkF m 230 #[.val (.int p0), .val (.ref b56'), .val (.int (24 : Int32)), .val (.ref (A 24)), .val (.int (0 : Int32)), .val (.int (0 : Int32))] [(.int (0 : Int32))])) (fun _ k => st131.trans k) ?_
    refine own_go (B := T131.setTop (mkF m 232 #[.val (.int p0), .val (.ref b56'), .val (.int (24 : Int32)), .val (.ref (A 24)), .val (.int (0 : Int32)), .val (.int (0 : Int32))] [(.int (0 : Int32)), (.int (0 : Int32))])) (fun _ k => XS.iload X131.here hx rfl (hb hby at_230) rfl k) ?_
    refine own_go (B := T131.setTop (mkF m 235 #[.val (.int p0), .val (.ref b56'), .val (.int (24 : Int32)), .val (.ref (A 24)), .val (.int (0 : Int32)), .val (.int (0 : Int32))] [])) (fun _ k => XS.icmpNo X131.here hx rfl (hb hby at_232) rfl (by decide) k) ?_
    refine own_go (B := T131.setTop (mkF m 236 #[.val (.int p0), .val (.ref b56'), .val (.int (24 : Int32)), .val (.ref (A 24)), .val (.int (0 : Int32)), .val (.int (0 : Int32))] [(.int (1 : Int32))])) (fun _ k => XT.iconstV X131.here hx rfl (1 : Int32) (hb hby at_235) rfl k) ?_
    refine own_go (B := T131.setTop (mkF m 240 #[.val (.int p0), .val (.ref b56'), .val (.int (24 : Int32)), .val (.ref (A 24)), .val (.int (0 : Int32)), .val (.int (0 : Int32))] [(.int (1 : Int32))])) (fun _ k => XS.goto X131.here hx rfl (pc0 := 236) (pc' := 240) rfl (hb hby at_236) (by decide) (by decide) k) ?_
    exact own_ret X131 hx (t := .boolean) hrt rfl (Or.inl ⟨rfl, by simp, _, rfl⟩) (hb hby at_240) hlk ⟨rfl, N131⟩ (by decide) (by decide)
  · refine own_go (B := T56'.setTop (mkF m 198 #[.val (.int p0), .val (.ref b56'), .val (.int (25 : Int32)), .unset, .unset, .unset] [(.ref b56')])) (fun _ k => XS.aloadN X56'.here hx rfl (hb hby at_197) rfl rfl k) ?_
    refine own_go (B := T56'.setTop (mkF m 199 #[.val (.int p0), .val (.ref b56'), .val (.int (25 : Int32)), .unset, .unset, .unset] [(.int (25 : Int32)), (.ref b56')])) (fun _ k => XS.iloadN X56'.here hx rfl (hb hby at_198) rfl k) ?_
    obtain ⟨cl132, Ar132, q132a, q132b, q132c, q132d, q132e⟩ := id V56'
    have i132 := inb_of (j := (25 : Int32)) q132b ⟨by decide, by decide⟩
    refine own_go (B := T56'.setTop (mkF m 200 #[.val (.int p0), .val (.ref b56'), .val (.int (25 : Int32)), .unset, .unset, .unset] [(.ref (A 25))])) (fun _ k => X56'.aaload hx (j := (25 : Int32)) (v := (.ref (A 25))) (by rw [e56']; exact Ar132.1) (State.isArrayOf_alike hZ.alike Ar132.2.1) rfl Ar132.2.2 i132 (Has.at q132d i132 rfl) (g := (mkF m 199 #[.val (.int p0), .val (.ref b56'), .val (.int (25 : Int32)), .unset, .unset, .unset] [(.int (25 : Int32)), (.ref b56')])) rfl rfl (hb hby at_199) _ k) ?_
    refine own_go (B := T56'.setTop (mkF m 201 #[.val (.int p0), .val (.ref b56'), .val (.int (25 : Int32)), .val (.ref (A 25)), .unset, .unset] [])) (fun _ k => XS.astoreN X56'.here hx rfl (hb hby at_200) rfl rfl (l' := #[.val (.int p0), .val (.ref b56'), .val (.int (25 : Int32)), .val (.ref (A 25)), .unset, .unset]) rfl k) ?_
    refine own_go (B := T56'.setTop (mkF m 202 #[.val (.int p0), .val (.ref b56'), .val (.int (25 : Int32)), .val (.ref (A 25)), .unset, .unset] [(.ref (A 25))])) (fun _ k => XS.aloadN X56'.here hx rfl (hb hby at_201) rfl rfl k) ?_
    obtain ⟨cq133, kq133, q133a, q133b, q133c⟩ := isOf hZ e56' (E_POST_INCREMENT.ext x56')
    obtain ⟨_, _, ⟨T133, L133, k133, n133⟩, -, X133, ⟨Lc133, hQ133, l133, y133, z133⟩, st133⟩ := X56'.virtualBack hx (y := (⟨"com/example/kilnbyte/kilnbyte/tree/Operator", "precedence", "()I"⟩ : MethodName)) (z := (⟨"com/example/kilnbyte/kilnbyte/tree/Operator", "precedence", "()I"⟩ : MethodName)) hown (mvT hZ (hw _ (List.mem_of_getElem? (i := 59) rfl))) (mvT hZ (hw _ (List.mem_of_getElem? (i := 60) rfl))) (notFace_of_selects (args := #[]) (mvT hZ (hw _ (List.mem_of_getElem? (i := 62) rfl)))) (mvT hZ (hw _ (List.mem_of_getElem? (i := 62) rfl))) (mvT hZ (hw _ (List.mem_of_getElem? (i := 61) rfl))) (by decide) (own_back (W := 0) (rm1_25 l Z a0 hw []  A hW h56' x56' ) hZ (hw _ (List.mem_of_getElem? (i := 63) rfl)) (hw _ (List.mem_of_getElem? (i := 3) rfl)) (by decide) (by decide)) q133a q133c (g := (mkF m 202 #[.val (.int p0), .val (.ref b56'), .val (.int (25 : Int32)), .val (.ref (A 25)), .unset, .unset] [(.ref (A 25))])) rfl (by rw [hml]; rfl) (Steps.refl _) (argsL := []) (rest := []) (lenOf pd_0 rfl) rfl (by show 2 * 0 + _ ≤ _; exact Nat.le_of_eq rfl) (hb hby at_202) (fun _ _ => ⟨rfl, e56', (by decide : 1 + 0 ≤ _), (by decide : 27 + 0 ≤ _)⟩)
    dsimp only [Pt.U, Pt.locs, Pt.cells, Pt.slots] at X133 l133 y133 z133 st133 hQ133
    subst l133 y133 z133
    obtain ⟨rfl, N133q, e133⟩ := hQ133
    have N133 := Fr.app N56' N133q
    refine own_go (B := T133.setTop (mkF m 205 #[.val (.int p0), .val (.ref b56'), .val (.int (25 : Int32)), .val (.ref (A 25)), .unset, .unset] [(.int (0 : Int32))])) (fun _ k => st133.trans k) ?_
    refine own_go (B := T133.setTop (mkF m 207 #[.val (.int p0), .val (.ref b56'), .val (.int (25 : Int32)), .val (.ref (A 25)), .val (.int (0 : Int32)), .unset] [])) (fun _ k => XS.istore X133.here hx rfl (hb hby at_205) rfl (l' := #[.val (.int p0), .val (.ref b56'), .val (.int (25 : Int32)), .val (.ref (A 25)), .val (.int (0 : Int32)), .unset]) rfl k) ?_
    refine own_go (B := T133.setTop (mkF m 209 #[.val (.int p0), .val (.ref b56'), .val (.int (25 : Int32)), .val (.ref (A 25)), .val (.int (0 : Int32)), .unset] [(.int (0 : Int32))])) (fun _ k => XS.iload X133.here hx rfl (hb hby at_207) rfl k) ?_
    refine own_go (B := T133.setTop (mkF m 210 #[.val (.int p0), .val (.ref b56'), .val (.int (25 : Int32)), .val (.ref (A 25)), .val (.int (0 : Int32)), .unset] [(.int (3 : Int32)), (.int (0 : Int32))])) (fun _ k => XT.iconstV X133.here hx rfl (3 : Int32) (hb hby at_209) rfl k) ?_
    refine own_go (B := T133.setTop (mkF m 223 #[.val (.int p0), .val (.ref b56'), .val (.int (25 : Int32)), .val (.ref (A 25)), .val (.int (0 : Int32)), .unset] [])) (fun _ k => XS.icmpYes X133.here hx rfl (pc0 := 210) (pc' := 223) rfl (hb hby at_210) rfl (by decide) (by decide) (by decide) k) ?_
    refine own_go (B := T133.setTop (mkF m 224 #[.val (.int p0), .val (.ref b56'), .val (.int (25 : Int32)), .val (.ref (A 25)), .val (.int (0 : Int32)), .unset] [(.int (0 : Int32))])) (fun _ k => XT.iconstV X133.here hx rfl (0 : Int32) (hb hby at_223) rfl k) ?_
    refine own_go (B := T133.setTop (mkF m 226 #[.val (.int p0), .val (.ref b56'), .val (.int (25 : Int32)), .val (.ref (A 25)), .val (.int (0 : Int32)), .val (.int (0 : Int32))] [])) (fun _ k => XS.istore X133.here hx rfl (hb hby at_224) rfl (l' := #[.val (.int p0), .val (.ref b56'), .val (.int (25 : Int32)), .val (.ref (A 25)), .val (.int (0 : Int32)), .val (.int (0 : Int32))]) rfl k) ?_
    refine own_go (B := T133.setTop (mkF m 227 #[.val (.int p0), .val (.ref b56'), .val (.int (25 : Int32)), .val (.ref (A 25)), .val (.int (0 : Int32)), .val (.int (0 : Int32))] [(.ref (A 25))])) (fun _ k => XS.aloadN X133.here hx rfl (hb hby at_226) rfl rfl k) ?_
    obtain ⟨cq134, kq134, q134a, q134b, q134c⟩ := isOf hZ e133 (E_POST_INCREMENT.ext x56')
    obtain ⟨_, _, ⟨T134, L134, k134, n134⟩, -, X134, ⟨Lc134, hQ134, l134, y134, z134⟩, st134⟩ := X133.virtualBack hx (y := (⟨"com/example/kilnbyte/kilnbyte/tree/Operator", "isBitwise", "()Z"⟩ : MethodName)) (z := (⟨"com/example/kilnbyte/kilnbyte/tree/Operator", "isBitwise", "()Z"⟩ : MethodName)) hown (mvT hZ (hw _ (List.mem_of_getElem? (i := 66) rfl))) (mvT hZ (hw _ (List.mem_of_getElem? (i := 67) rfl))) (notFace_of_selects (args := #[]) (mvT hZ (hw _ (List.mem_of_getElem? (i := 69) rfl)))) (mvT hZ (hw _ (List.mem_of_getElem? (i := 69) rfl))) (mvT hZ (hw _ (List.mem_of_getElem? (i := 68) rfl))) (by decide) (own_back (W := 0) (rm2_25 l Z a0 hw []  A hW h56' x56' ) hZ (hw _ (List.mem_of_getElem? (i := 70) rfl)) (hw _ (List.mem_of_getElem? (i := 3) rfl)) (by decide) (by decide)) q134a q134c (g := (mkF m 227 #[.val (.int p0), .val (.ref b56'), .val (.int (25 : Int32)), .val (.ref (A 25)), .val (.int (0 : Int32)), .val (.int (0 : Int32))] [(.ref (A 25))])) rfl (by rw [hml]; rfl) (Steps.refl _) (argsL := []) (rest := []) (lenOf pd_1 rfl) rfl (by show 2 * 0 + _ ≤ _; exact Nat.le_of_eq rfl) (hb hby at_227) (fun _ _ => ⟨rfl, e133, (by decide : 1 + 0 ≤ _), (by decide : 27 + 0 ≤ _)⟩)
    dsimp only [Pt.U, Pt.locs, Pt.cells, Pt.slots] at X134 l134 y134 z134 st134 hQ134
    subst l134 y134 z134
    obtain ⟨rfl, N134q, e134⟩ := hQ134
    have N134 := Fr.app N133 N134q
    refine own_go (B := T134.setTop (mkF m 230 #[.val (.int p0), .val (.ref b56'), .val (.int (25 : Int32)), .val (.ref (A 25)), .val (.int (0 : Int32)), .val (.int (0 : Int32))] [(.int (0 : Int32))])) (fun _ k => st134.trans k) ?_
    refine own_go (B := T134.setTop (mkF m 232 #[.val (.int p0), .val (.ref b56'), .val (.int (25 : Int32)), .val (.ref (A 25)), .val (.int (0 : Int32)), .val (.int (0 : Int32))] [(.int (0 : Int32)), (.int (0 : Int32))])) (fun _ k => XS.iload X134.here hx rfl (hb hby at_230) rfl k) ?_
    refine own_go (B := T134.setTop (mkF m 235 #[.val (.int p0), .val (.ref b56'), .val (.int (25 : Int32)), .val (.ref (A 25)), .val (.int (0 : Int32)), .val (.int (0 : Int32))] [])) (fun _ k => XS.icmpNo X134.here hx rfl (hb hby at_232) rfl (by decide) k) ?_
    refine own_go (B := T134.setTop (mkF m 236 #[.val (.int p0), .val (.ref b56'), .val (.int (25 : Int32)), .val (.ref (A 25)), .val (.int (0 : Int32)), .val (.int (0 : Int32))] [(.int (1 : Int32))])) (fun _ k => XT.iconstV X134.here hx rfl (1 : Int32) (hb hby at_235) rfl k) ?_
    refine own_go (B := T134.setTop (mkF m 240 #[.val (.int p0), .val (.ref b56'), .val (.int (25 : Int32)), .val (.ref (A 25)), .val (.int (0 : Int32)), .val (.int (0 : Int32))] [(.int (1 : Int32))])) (fun _ k => XS.goto X134.here hx rfl (pc0 := 236) (pc' := 240) rfl (hb hby at_236) (by decide) (by decide) k) ?_
    exact own_ret X134 hx (t := .boolean) hrt rfl (Or.inl ⟨rfl, by simp, _, rfl⟩) (hb hby at_240) hlk ⟨rfl, N134⟩ (by decide) (by decide)
  · refine own_go (B := T56'.setTop (mkF m 198 #[.val (.int p0), .val (.ref b56'), .val (.int (26 : Int32)), .unset, .unset, .unset] [(.ref b56')])) (fun _ k => XS.aloadN X56'.here hx rfl (hb hby at_197) rfl rfl k) ?_
    refine own_go (B := T56'.setTop (mkF m 199 #[.val (.int p0), .val (.ref b56'), .val (.int (26 : Int32)), .unset, .unset, .unset] [(.int (26 : Int32)), (.ref b56')])) (fun _ k => XS.iloadN X56'.here hx rfl (hb hby at_198) rfl k) ?_
    obtain ⟨cl135, Ar135, q135a, q135b, q135c, q135d, q135e⟩ := id V56'
    have i135 := inb_of (j := (26 : Int32)) q135b ⟨by decide, by decide⟩
    refine own_go (B := T56'.setTop (mkF m 200 #[.val (.int p0), .val (.ref b56'), .val (.int (26 : Int32)), .unset, .unset, .unset] [(.ref (A 26))])) (fun _ k => X56'.aaload hx (j := (26 : Int32)) (v := (.ref (A 26))) (by rw [e56']; exact Ar135.1) (State.isArrayOf_alike hZ.alike Ar135.2.1) rfl Ar135.2.2 i135 (Has.at q135d i135 rfl) (g := (mkF m 199 #[.val (.int p0), .val (.ref b56'), .val (.int (26 : Int32)), .unset, .unset, .unset] [(.int (26 : Int32)), (.ref b56')])) rfl rfl (hb hby at_199) _ k) ?_
    refine own_go (B := T56'.setTop (mkF m 201 #[.val (.int p0), .val (.ref b56'), .val (.int (26 : Int32)), .val (.ref (A 26)), .unset, .unset] [])) (fun _ k => XS.astoreN X56'.here hx rfl (hb hby at_200) rfl rfl (l' := #[.val (.int p0), .val (.ref b56'), .val (.int (26 : Int32)), .val (.ref (A 26)), .unset, .unset]) rfl k) ?_
    refine own_go (B := T56'.setTop (mkF m 202 #[.val (.int p0), .val (.ref b56'), .val (.int (26 : Int32)), .val (.ref (A 26)), .unset, .unset] [(.ref (A 26))])) (fun _ k => XS.aloadN X56'.here hx rfl (hb hby at_201) rfl rfl k) ?_
    obtain ⟨cq136, kq136, q136a, q136b, q136c⟩ := isOf hZ e56' (E_POST_DECREMENT.ext x56')
    obtain ⟨_, _, ⟨T136, L136, k136, n136⟩, -, X136, ⟨Lc136, hQ136, l136, y136, z136⟩, st136⟩ := X56'.virtualBack hx (y := (⟨"com/example/kilnbyte/kilnbyte/tree/Operator", "precedence", "()I"⟩ : MethodName)) (z := (⟨"com/example/kilnbyte/kilnbyte/tree/Operator", "precedence", "()I"⟩ : MethodName)) hown (mvT hZ (hw _ (List.mem_of_getElem? (i := 59) rfl))) (mvT hZ (hw _ (List.mem_of_getElem? (i := 60) rfl))) (notFace_of_selects (args := #[]) (mvT hZ (hw _ (List.mem_of_getElem? (i := 62) rfl)))) (mvT hZ (hw _ (List.mem_of_getElem? (i := 62) rfl))) (mvT hZ (hw _ (List.mem_of_getElem? (i := 61) rfl))) (by decide) (own_back (W := 0) (rm1_26 l Z a0 hw []  A hW h56' x56' ) hZ (hw _ (List.mem_of_getElem? (i := 63) rfl)) (hw _ (List.mem_of_getElem? (i := 3) rfl)) (by decide) (by decide)) q136a q136c (g := (mkF m 202 #[.val (.int p0), .val (.ref b56'), .val (.int (26 : Int32)), .val (.ref (A 26)), .unset, .unset] [(.ref (A 26))])) rfl (by rw [hml]; rfl) (Steps.refl _) (argsL := []) (rest := []) (lenOf pd_0 rfl) rfl (by show 2 * 0 + _ ≤ _; exact Nat.le_of_eq rfl) (hb hby at_202) (fun _ _ => ⟨rfl, e56', (by decide : 1 + 0 ≤ _), (by decide : 27 + 0 ≤ _)⟩)
    dsimp only [Pt.U, Pt.locs, Pt.cells, Pt.slots] at X136 l136 y136 z136 st136 hQ136
    subst l136 y136 z136
    obtain ⟨rfl, N136q, e136⟩ := hQ136
    have N136 := Fr.app N56' N136q
    refine own_go (B := T136.setTop (mkF m 205 #[.val (.int p0), .val (.ref b56'), .val (.int (26 : Int32)), .val (.ref (A 26)), .unset, .unset] [(.int (0 : Int32))])) (fun _ k => st136.trans k) ?_
    refine own_go (B := T136.setTop (mkF m 207 #[.val (.int p0), .val (.ref b56'), .val (.int (26 : Int32)), .val (.ref (A 26)), .val (.int (0 : Int32)), .unset] [])) (fun _ k => XS.istore X136.here hx rfl (hb hby at_205) rfl (l' := #[.val (.int p0), .val (.ref b56'), .val (.int (26 : Int32)), .val (.ref (A 26)), .val (.int (0 : Int32)), .unset]) rfl k) ?_
    refine own_go (B := T136.setTop (mkF m 209 #[.val (.int p0), .val (.ref b56'), .val (.int (26 : Int32)), .val (.ref (A 26)), .val (.int (0 : Int32)), .unset] [(.int (0 : Int32))])) (fun _ k => XS.iload X136.here hx rfl (hb hby at_207) rfl k) ?_
    refine own_go (B := T136.setTop (mkF m 210 #[.val (.int p0), .val (.ref b56'), .val (.int (26 : Int32)), .val (.ref (A 26)), .val (.int (0 : Int32)), .unset] [(.int (3 : Int32)), (.int (0 : Int32))])) (fun _ k => XT.iconstV X136.here hx rfl (3 : Int32) (hb hby at_209) rfl k) ?_
    refine own_go (B := T136.setTop (mkF m 223 #[.val (.int p0), .val (.ref b56'), .val (.int (26 : Int32)), .val (.ref (A 26)), .val (.int (0 : Int32)), .unset] [])) (fun _ k => XS.icmpYes X136.here hx rfl (pc0 := 210) (pc' := 223) rfl (hb hby at_210) rfl (by decide) (by decide) (by decide) k) ?_
    refine own_go (B := T136.setTop (mkF m 224 #[.val (.int p0), .val (.ref b56'), .val (.int (26 : Int32)), .val (.ref (A 26)), .val (.int (0 : Int32)), .unset] [(.int (0 : Int32))])) (fun _ k => XT.iconstV X136.here hx rfl (0 : Int32) (hb hby at_223) rfl k) ?_
    refine own_go (B := T136.setTop (mkF m 226 #[.val (.int p0), .val (.ref b56'), .val (.int (26 : Int32)), .val (.ref (A 26)), .val (.int (0 : Int32)), .val (.int (0 : Int32))] [])) (fun _ k => XS.istore X136.here hx rfl (hb hby at_224) rfl (l' := #[.val (.int p0), .val (.ref b56'), .val (.int (26 : Int32)), .val (.ref (A 26)), .val (.int (0 : Int32)), .val (.int (0 : Int32))]) rfl k) ?_
    refine own_go (B := T136.setTop (mkF m 227 #[.val (.int p0), .val (.ref b56'), .val (.int (26 : Int32)), .val (.ref (A 26)), .val (.int (0 : Int32)), .val (.int (0 : Int32))] [(.ref (A 26))])) (fun _ k => XS.aloadN X136.here hx rfl (hb hby at_226) rfl rfl k) ?_
    obtain ⟨cq137, kq137, q137a, q137b, q137c⟩ := isOf hZ e136 (E_POST_DECREMENT.ext x56')
    obtain ⟨_, _, ⟨T137, L137, k137, n137⟩, -, X137, ⟨Lc137, hQ137, l137, y137, z137⟩, st137⟩ := X136.virtualBack hx (y := (⟨"com/example/kilnbyte/kilnbyte/tree/Operator", "isBitwise", "()Z"⟩ : MethodName)) (z := (⟨"com/example/kilnbyte/kilnbyte/tree/Operator", "isBitwise", "()Z"⟩ : MethodName)) hown (mvT hZ (hw _ (List.mem_of_getElem? (i := 66) rfl))) (mvT hZ (hw _ (List.mem_of_getElem? (i := 67) rfl))) (notFace_of_selects (args := #[]) (mvT hZ (hw _ (List.mem_of_getElem? (i := 69) rfl)))) (mvT hZ (hw _ (List.mem_of_getElem? (i := 69) rfl))) (mvT hZ (hw _ (List.mem_of_getElem? (i := 68) rfl))) (by decide) (own_back (W := 0) (rm2_26 l Z a0 hw []  A hW h56' x56' ) hZ (hw _ (List.mem_of_getElem? (i := 70) rfl)) (hw _ (List.mem_of_getElem? (i := 3) rfl)) (by decide) (by decide)) q137a q137c (g := (mkF m 227 #[.val (.int p0), .val (.ref b56'), .val (.int (26 : Int32)), .val (.ref (A 26)), .val (.int (0 : Int32)), .val (.int (0 : Int32))] [(.ref (A 26))])) rfl (by rw [hml]; rfl) (Steps.refl _) (argsL := []) (rest := []) (lenOf pd_1 rfl) rfl (by show 2 * 0 + _ ≤ _; exact Nat.le_of_eq rfl) (hb hby at_227) (fun _ _ => ⟨rfl, e136, (by decide : 1 + 0 ≤ _), (by decide : 27 + 0 ≤ _)⟩)
    dsimp only [Pt.U, Pt.locs, Pt.cells, Pt.slots] at X137 l137 y137 z137 st137 hQ137
    subst l137 y137 z137
    obtain ⟨rfl, N137q, e137⟩ := hQ137
    have N137 := Fr.app N136 N137q
    refine own_go (B := T137.setTop (mkF m 230 #[.val (.int p0), .val (.ref b56'), .val (.int (26 : Int32)), .val (.ref (A 26)), .val (.int (0 : Int32)), .val (.int (0 : Int32))] [(.int (0 : Int32))])) (fun _ k => st137.trans k) ?_
    refine own_go (B := T137.setTop (mkF m 232 #[.val (.int p0), .val (.ref b56'), .val (.int (26 : Int32)), .val (.ref (A 26)), .val (.int (0 : Int32)), .val (.int (0 : Int32))] [(.int (0 : Int32)), (.int (0 : Int32))])) (fun _ k => XS.iload X137.here hx rfl (hb hby at_230) rfl k) ?_
    refine own_go (B := T137.setTop (mkF m 235 #[.val (.int p0), .val (.ref b56'), .val (.int (26 : Int32)), .val (.ref (A 26)), .val (.int (0 : Int32)), .val (.int (0 : Int32))] [])) (fun _ k => XS.icmpNo X137.here hx rfl (hb hby at_232) rfl (by decide) k) ?_
    refine own_go (B := T137.setTop (mkF m 236 #[.val (.int p0), .val (.ref b56'), .val (.int (26 : Int32)), .val (.ref (A 26)), .val (.int (0 : Int32)), .val (.int (0 : Int32))] [(.int (1 : Int32))])) (fun _ k => XT.iconstV X137.here hx rfl (1 : Int32) (hb hby at_235) rfl k) ?_
    refine own_go (B := T137.setTop (mkF m 240 #[.val (.int p0), .val (.ref b56'), .val (.int (26 : Int32)), .val (.ref (A 26)), .val (.int (0 : Int32)), .val (.int (0 : Int32))] [(.int (1 : Int32))])) (fun _ k => XS.goto X137.here hx rfl (pc0 := 236) (pc' := 240) rfl (hb hby at_236) (by decide) (by decide) k) ?_
    exact own_ret X137 hx (t := .boolean) hrt rfl (Or.inl ⟨rfl, by simp, _, rfl⟩) (hb hby at_240) hlk ⟨rfl, N137⟩ (by decide) (by decide)
set_option maxRecDepth 65536 in
set_option maxHeartbeats 40000000 in
theorem comes_1 {Post : Tables → Env → Array Value → State → Outcome → State → Prop} (hpost : ∀ tb e args s v u, (limb_1_1.after args s (.returned v) u = true ∧ limb_1_2.after args s (.returned v) u = true ∧ True) → FrameEnd s (.returned v) u (Jvm.fieldLocs frame_1_writes args s ++ Jvm.arrayLocs frame_1_arrays args s ++ Jvm.staticLocs frame_1_statics s) 16 128 → Post tb e args s (.returned v) u) :
    ArmFor flags0 classFile x code maxLocals ret World_1 tables_1 room_1 Calls_1 rest_1 Pre_1 Post := by
  intro l hfl _ _ p e ha hc hk s m args below hf hA hF happ hP
  obtain ⟨hcalls, hrest, hpre⟩ := hP
  obtain ⟨-, -, -, hnamed, -, -, -, hat⟩ := (Spec.applies_iff hf).mp happ
  obtain ⟨hg, hn⟩ := and_e (Cond.before_iff.mp (show (Jvm.Cond.and given_1 narrow_1).before args s = true from hpre))
  obtain ⟨g1a, g1b⟩ := and_e hg
  obtain ⟨w0, rfl⟩ : ∃ w0 : Value, args = #[w0] := by
    have hs : args.size = 1 := by simpa [Cond.value, given_1] using g1a
    obtain ⟨L⟩ := args
    match L, hs with
    | [w0], _ => exact ⟨w0, rfl⟩
  have hw := fun d (hd : d ∈ tables_1) => atoms_spec (ws := Jvm.Cond.code x code maxLocals ret :: tables_1) hat d (List.mem_cons_of_mem _ hd)
  obtain ⟨i0, ei0⟩ := is_v g1b
  obtain rfl : w0 = (.int i0) := Option.some.inj ei0
  obtain ⟨u1a, u1b⟩ := and_e hn
  obtain ⟨u2a, u2b⟩ := and_e u1b
  obtain ⟨u3a, u3b⟩ := and_e u2b
  obtain ⟨u4a, u4b⟩ := and_e u3b
  obtain ⟨u5a, u5b⟩ := and_e u4b
  obtain ⟨u6a, u6b⟩ := and_e u5b
  obtain ⟨u7a, u7b⟩ := and_e u6b
  obtain ⟨u8a, u8b⟩ := and_e u7b
  obtain ⟨u9a, u9b⟩ := and_e u8b
  obtain ⟨u10a, u10b⟩ := and_e u9b
  obtain ⟨u11a, u11b⟩ := and_e u10b
  obtain ⟨u12a, u12b⟩ := and_e u11b
  obtain ⟨u13a, u13b⟩ := and_e u12b
  obtain ⟨u14a, u14b⟩ := and_e u13b
  obtain ⟨u15a, u15b⟩ := and_e u14b
  obtain ⟨u16a, u16b⟩ := and_e u15b
  obtain ⟨u17a, u17b⟩ := and_e u16b
  obtain ⟨u18a, u18b⟩ := and_e u17b
  obtain ⟨u19a, u19b⟩ := and_e u18b
  obtain ⟨u20a, u20b⟩ := and_e u19b
  obtain ⟨u21a, u21b⟩ := and_e u20b
  obtain ⟨u22a, u22b⟩ := and_e u21b
  obtain ⟨u23a, u23b⟩ := and_e u22b
  obtain ⟨u24a, u24b⟩ := and_e u23b
  obtain ⟨u25a, u25b⟩ := and_e u24b
  obtain ⟨u26a, u26b⟩ := and_e u25b
  obtain ⟨u27a, u27b⟩ := and_e u26b
  obtain ⟨u28a, u28b⟩ := and_e u27b
  obtain ⟨u29a, u29b⟩ := and_e u28b
  obtain ⟨u30a, u30b⟩ := and_e u29b
  obtain ⟨u31a, u31b⟩ := and_e u30b
  obtain ⟨u32a, u32b⟩ := and_e u31b
  obtain ⟨u33a, u33b⟩ := and_e u32b
  obtain ⟨u34a, u34b⟩ := and_e u33b
  obtain ⟨u35a, u35b⟩ := and_e u34b
  obtain ⟨u36a, u36b⟩ := and_e u35b
  obtain ⟨u37a, u37b⟩ := and_e u36b
  obtain ⟨u38a, u38b⟩ := and_e u37b
  obtain ⟨u39a, u39b⟩ := and_e u38b
  obtain ⟨u40a, u40b⟩ := and_e u39b
  obtain ⟨u41a, u41b⟩ := and_e u40b
  obtain ⟨u42a, u42b⟩ := and_e u41b
  obtain ⟨u43a, u43b⟩ := and_e u42b
  obtain ⟨u44a, u44b⟩ := and_e u43b
  obtain ⟨u45a, u45b⟩ := and_e u44b
  obtain ⟨u46a, u46b⟩ := and_e u45b
  obtain ⟨u47a, u47b⟩ := and_e u46b
  obtain ⟨u48a, u48b⟩ := and_e u47b
  obtain ⟨u49a, u49b⟩ := and_e u48b
  obtain ⟨u50a, u50b⟩ := and_e u49b
  obtain ⟨u51a, u51b⟩ := and_e u50b
  obtain ⟨u52a, u52b⟩ := and_e u51b
  obtain ⟨u53a, u53b⟩ := and_e u52b
  obtain ⟨u54a, u54b⟩ := and_e u53b
  obtain ⟨u55a, u55b⟩ := and_e u54b
  obtain ⟨u56a, u56b⟩ := and_e u55b
  obtain ⟨u57a, u57b⟩ := and_e u56b
  obtain ⟨u58a, u58b⟩ := and_e u57b
  obtain ⟨u59a, u59b⟩ := and_e u58b
  obtain ⟨u60a, u60b⟩ := and_e u59b
  obtain ⟨u61a, u61b⟩ := and_e u60b
  obtain ⟨u62a, u62b⟩ := and_e u61b
  obtain ⟨u63a, u63b⟩ := and_e u62b
  obtain ⟨u64a, u64b⟩ := and_e u63b
  obtain ⟨u65a, u65b⟩ := and_e u64b
  obtain ⟨u66a, u66b⟩ := and_e u65b
  obtain ⟨u67a, u67b⟩ := and_e u66b
  obtain ⟨u68a, u68b⟩ := and_e u67b
  obtain ⟨u69a, u69b⟩ := and_e u68b
  obtain ⟨u70a, u70b⟩ := and_e u69b
  obtain ⟨u71a, u71b⟩ := and_e u70b
  obtain ⟨u72a, u72b⟩ := and_e u71b
  obtain ⟨u73a, u73b⟩ := and_e u72b
  obtain ⟨u74a, u74b⟩ := and_e u73b
  obtain ⟨u75a, u75b⟩ := and_e u74b
  obtain ⟨u76a, u76b⟩ := and_e u75b
  obtain ⟨u77a, u77b⟩ := and_e u76b
  obtain ⟨u78a, u78b⟩ := and_e u77b
  obtain ⟨u79a, u79b⟩ := and_e u78b
  obtain ⟨u80a, u80b⟩ := and_e u79b
  obtain ⟨a_MULTIPLY, ev_MULTIPLY⟩ := exa_v u1a
  obtain ⟨a_DIVIDE, ev_DIVIDE⟩ := exa_v u2a
  obtain ⟨a_REMAINDER, ev_REMAINDER⟩ := exa_v u3a
  obtain ⟨a_ADD, ev_ADD⟩ := exa_v u4a
  obtain ⟨a_SUBTRACT, ev_SUBTRACT⟩ := exa_v u5a
  obtain ⟨a_SHIFT_LEFT, ev_SHIFT_LEFT⟩ := exa_v u6a
  obtain ⟨a_SHIFT_RIGHT, ev_SHIFT_RIGHT⟩ := exa_v u7a
  obtain ⟨a_UNSIGNED_SHIFT_RIGHT, ev_UNSIGNED_SHIFT_RIGHT⟩ := exa_v u8a
  obtain ⟨a_LESS, ev_LESS⟩ := exa_v u9a
  obtain ⟨a_GREATER, ev_GREATER⟩ := exa_v u10a
  obtain ⟨a_LESS_EQUAL, ev_LESS_EQUAL⟩ := exa_v u11a
  obtain ⟨a_GREATER_EQUAL, ev_GREATER_EQUAL⟩ := exa_v u12a
  obtain ⟨a_EQUAL, ev_EQUAL⟩ := exa_v u13a
  obtain ⟨a_NOT_EQUAL, ev_NOT_EQUAL⟩ := exa_v u14a
  obtain ⟨a_AND, ev_AND⟩ := exa_v u15a
  obtain ⟨a_XOR, ev_XOR⟩ := exa_v u16a
  obtain ⟨a_OR, ev_OR⟩ := exa_v u17a
  obtain ⟨a_CONDITIONAL_AND, ev_CONDITIONAL_AND⟩ := exa_v u18a
  obtain ⟨a_CONDITIONAL_OR, ev_CONDITIONAL_OR⟩ := exa_v u19a
  obtain ⟨a_PLUS, ev_PLUS⟩ := exa_v u20a
  obtain ⟨a_MINUS, ev_MINUS⟩ := exa_v u21a
  obtain ⟨a_COMPLEMENT, ev_COMPLEMENT⟩ := exa_v u22a
  obtain ⟨a_NOT, ev_NOT⟩ := exa_v u23a
  obtain ⟨a_PRE_INCREMENT, ev_PRE_INCREMENT⟩ := exa_v u24a
  obtain ⟨a_PRE_DECREMENT, ev_PRE_DECREMENT⟩ := exa_v u25a
  obtain ⟨a_POST_INCREMENT, ev_POST_INCREMENT⟩ := exa_v u26a
  obtain ⟨a_POST_DECREMENT, ev_POST_DECREMENT⟩ := exa_v u27a
  obtain ⟨n, o, h1, h2, h3, _, L, rfl, ⟨rfl, N⟩, hq⟩ := rm0 l s _ hw tables_1 i0 (fun n => [a_MULTIPLY, a_DIVIDE, a_REMAINDER, a_ADD, a_SUBTRACT, a_SHIFT_LEFT, a_SHIFT_RIGHT, a_UNSIGNED_SHIFT_RIGHT, a_LESS, a_GREATER, a_LESS_EQUAL, a_GREATER_EQUAL, a_EQUAL, a_NOT_EQUAL, a_AND, a_XOR, a_OR, a_CONDITIONAL_AND, a_CONDITIONAL_OR, a_PLUS, a_MINUS, a_COMPLEMENT, a_NOT, a_PRE_INCREMENT, a_PRE_DECREMENT, a_POST_INCREMENT, a_POST_DECREMENT].getD n 0) ⟨(Sta.start ev_MULTIPLY (Or.inr ⟨(hw _ (List.mem_of_getElem? (i := 3) rfl)), (hw _ (List.mem_of_getElem? (i := 4) rfl))⟩)), (Exa.start ev_MULTIPLY u1a), (Sta.start ev_DIVIDE (Or.inr ⟨(hw _ (List.mem_of_getElem? (i := 3) rfl)), (hw _ (List.mem_of_getElem? (i := 7) rfl))⟩)), (Exa.start ev_DIVIDE u2a), (Sta.start ev_REMAINDER (Or.inr ⟨(hw _ (List.mem_of_getElem? (i := 3) rfl)), (hw _ (List.mem_of_getElem? (i := 9) rfl))⟩)), (Exa.start ev_REMAINDER u3a), (Sta.start ev_ADD (Or.inr ⟨(hw _ (List.mem_of_getElem? (i := 3) rfl)), (hw _ (List.mem_of_getElem? (i := 11) rfl))⟩)), (Exa.start ev_ADD u4a), (Sta.start ev_SUBTRACT (Or.inr ⟨(hw _ (List.mem_of_getElem? (i := 3) rfl)), (hw _ (List.mem_of_getElem? (i := 13) rfl))⟩)), (Exa.start ev_SUBTRACT u5a), (Sta.start ev_SHIFT_LEFT (Or.inr ⟨(hw _ (List.mem_of_getElem? (i := 3) rfl)), (hw _ (List.mem_of_getElem? (i := 15) rfl))⟩)), (Exa.start ev_SHIFT_LEFT u6a), (Sta.start ev_SHIFT_RIGHT (Or.inr ⟨(hw _ (List.mem_of_getElem? (i := 3) rfl)), (hw _ (List.mem_of_getElem? (i := 17) rfl))⟩)), (Exa.start ev_SHIFT_RIGHT u7a), (Sta.start ev_UNSIGNED_SHIFT_RIGHT (Or.inr ⟨(hw _ (List.mem_of_getElem? (i := 3) rfl)), (hw _ (List.mem_of_getElem? (i := 19) rfl))⟩)), (Exa.start ev_UNSIGNED_SHIFT_RIGHT u8a), (Sta.start ev_LESS (Or.inr ⟨(hw _ (List.mem_of_getElem? (i := 3) rfl)), (hw _ (List.mem_of_getElem? (i := 21) rfl))⟩)), (Exa.start ev_LESS u9a), (Sta.start ev_GREATER (Or.inr ⟨(hw _ (List.mem_of_getElem? (i := 3) rfl)), (hw _ (List.mem_of_getElem? (i := 23) rfl))⟩)), (Exa.start ev_GREATER u10a), (Sta.start ev_LESS_EQUAL (Or.inr ⟨(hw _ (List.mem_of_getElem? (i := 3) rfl)), (hw _ (List.mem_of_getElem? (i := 25) rfl))⟩)), (Exa.start ev_LESS_EQUAL u11a), (Sta.start ev_GREATER_EQUAL (Or.inr ⟨(hw _ (List.mem_of_getElem? (i := 3) rfl)), (hw _ (List.mem_of_getElem? (i := 27) rfl))⟩)), (Exa.start ev_GREATER_EQUAL u12a), (Sta.start ev_EQUAL (Or.inr ⟨(hw _ (List.mem_of_getElem? (i := 3) rfl)), (hw _ (List.mem_of_getElem? (i := 29) rfl))⟩)), (Exa.start ev_EQUAL u13a), (Sta.start ev_NOT_EQUAL (Or.inr ⟨(hw _ (List.mem_of_getElem? (i := 3) rfl)), (hw _ (List.mem_of_getElem? (i := 31) rfl))⟩)), (Exa.start ev_NOT_EQUAL u14a), (Sta.start ev_AND (Or.inr ⟨(hw _ (List.mem_of_getElem? (i := 3) rfl)), (hw _ (List.mem_of_getElem? (i := 33) rfl))⟩)), (Exa.start ev_AND u15a), (Sta.start ev_XOR (Or.inr ⟨(hw _ (List.mem_of_getElem? (i := 3) rfl)), (hw _ (List.mem_of_getElem? (i := 35) rfl))⟩)), (Exa.start ev_XOR u16a), (Sta.start ev_OR (Or.inr ⟨(hw _ (List.mem_of_getElem? (i := 3) rfl)), (hw _ (List.mem_of_getElem? (i := 37) rfl))⟩)), (Exa.start ev_OR u17a), (Sta.start ev_CONDITIONAL_AND (Or.inr ⟨(hw _ (List.mem_of_getElem? (i := 3) rfl)), (hw _ (List.mem_of_getElem? (i := 39) rfl))⟩)), (Exa.start ev_CONDITIONAL_AND u18a), (Sta.start ev_CONDITIONAL_OR (Or.inr ⟨(hw _ (List.mem_of_getElem? (i := 3) rfl)), (hw _ (List.mem_of_getElem? (i := 41) rfl))⟩)), (Exa.start ev_CONDITIONAL_OR u19a), (Sta.start ev_PLUS (Or.inr ⟨(hw _ (List.mem_of_getElem? (i := 3) rfl)), (hw _ (List.mem_of_getElem? (i := 43) rfl))⟩)), (Exa.start ev_PLUS u20a), (Sta.start ev_MINUS (Or.inr ⟨(hw _ (List.mem_of_getElem? (i := 3) rfl)), (hw _ (List.mem_of_getElem? (i := 45) rfl))⟩)), (Exa.start ev_MINUS u21a), (Sta.start ev_COMPLEMENT (Or.inr ⟨(hw _ (List.mem_of_getElem? (i := 3) rfl)), (hw _ (List.mem_of_getElem? (i := 47) rfl))⟩)), (Exa.start ev_COMPLEMENT u22a), (Sta.start ev_NOT (Or.inr ⟨(hw _ (List.mem_of_getElem? (i := 3) rfl)), (hw _ (List.mem_of_getElem? (i := 49) rfl))⟩)), (Exa.start ev_NOT u23a), (Sta.start ev_PRE_INCREMENT (Or.inr ⟨(hw _ (List.mem_of_getElem? (i := 3) rfl)), (hw _ (List.mem_of_getElem? (i := 51) rfl))⟩)), (Exa.start ev_PRE_INCREMENT u24a), (Sta.start ev_PRE_DECREMENT (Or.inr ⟨(hw _ (List.mem_of_getElem? (i := 3) rfl)), (hw _ (List.mem_of_getElem? (i := 53) rfl))⟩)), (Exa.start ev_PRE_DECREMENT u25a), (Sta.start ev_POST_INCREMENT (Or.inr ⟨(hw _ (List.mem_of_getElem? (i := 3) rfl)), (hw _ (List.mem_of_getElem? (i := 55) rfl))⟩)), (Exa.start ev_POST_INCREMENT u26a), (Sta.start ev_POST_DECREMENT (Or.inr ⟨(hw _ (List.mem_of_getElem? (i := 3) rfl)), (hw _ (List.mem_of_getElem? (i := 57) rfl))⟩)), (Exa.start ev_POST_DECREMENT u27a), (own_fI ev_MULTIPLY u28a), (own_fI ev_MULTIPLY u29a), (own_fI ev_AND u30a), (own_fI ev_XOR u31a), (own_fI ev_OR u32a), (own_fI ev_ADD u33a), (own_fI ev_ADD u34a), (own_fI ev_REMAINDER u35a), (own_fI ev_REMAINDER u36a), (own_fI ev_LESS_EQUAL u37a), (own_fI ev_LESS_EQUAL u38a), (own_fI ev_COMPLEMENT u39a), (own_fI ev_COMPLEMENT u40a), (own_fI ev_MINUS u41a), (own_fI ev_MINUS u42a), (own_fI ev_UNSIGNED_SHIFT_RIGHT u43a), (own_fI ev_UNSIGNED_SHIFT_RIGHT u44a), (own_fI ev_GREATER_EQUAL u45a), (own_fI ev_GREATER_EQUAL u46a), (own_fI ev_NOT u47a), (own_fI ev_NOT u48a), (own_fI ev_LESS u49a), (own_fI ev_LESS u50a), (own_fI ev_DIVIDE u51a), (own_fI ev_DIVIDE u52a), (own_fI ev_POST_INCREMENT u53a), (own_fI ev_POST_INCREMENT u54a), (own_fI ev_XOR u55a), (own_fI ev_SUBTRACT u56a), (own_fI ev_SUBTRACT u57a), (own_fI ev_OR u58a), (own_fI ev_SHIFT_RIGHT u59a), (own_fI ev_SHIFT_RIGHT u60a), (own_fI ev_PLUS u61a), (own_fI ev_PLUS u62a), (own_fI ev_NOT_EQUAL u63a), (own_fI ev_NOT_EQUAL u64a), (own_fI ev_AND u65a), (own_fI ev_CONDITIONAL_AND u66a), (own_fI ev_CONDITIONAL_AND u67a), (own_fI ev_POST_DECREMENT u68a), (own_fI ev_POST_DECREMENT u69a), (own_fI ev_EQUAL u70a), (own_fI ev_EQUAL u71a), (own_fI ev_SHIFT_LEFT u72a), (own_fI ev_SHIFT_LEFT u73a), (own_fI ev_CONDITIONAL_OR u74a), (own_fI ev_CONDITIONAL_OR u75a), (own_fI ev_GREATER u76a), (own_fI ev_GREATER u77a), (own_fI ev_PRE_DECREMENT u78a), (own_fI ev_PRE_DECREMENT u79a), (own_fI ev_PRE_INCREMENT u80a), (own_fI ev_PRE_INCREMENT u80b)⟩ s.heap (own_xr _) p e ha hc hk s m _ below hf ((Spec.applies_iff_loose hf).mp happ).1 ⟨rfl, State.Warmed39.refl s, rfl⟩ trivial
  refine ⟨n, _, h1, h2, h3, hpost _ _ _ _ _ _ ⟨Cond.after_iff.mpr rfl, Cond.after_iff.mpr (eq_i res_at (Term.int_eval (1)) rfl), trivial⟩ ⟨hq.1, hq.2.1, (hq.2.2.sift fun y hy => Or.inr (N y hy)).mono (by decide) (by decide)⟩⟩
theorem main_1_1 : Claimed_1_1 := comes_1 fun _ _ _ _ _ _ h hF => ⟨h.1, hF⟩
theorem main_1_2 : Claimed_1_2 := comes_1 fun _ _ _ _ _ _ h hF => ⟨h.2.1, hF⟩
end Jvm.Pilot.@@N@@
namespace Jvm.Pilot.@@N@@
open Jvm Jvm.ClassFile Sem Op Lib Jvm.Free Jvm.Stand Jvm.Pilot.@@N@@.Jvm.D
/-! MADE BY PROGRAM (witnessworld.py) out of the Statement's table words and the real class files: 13 classes; the members and pool entries that the words name. The judged class is class 1, her method 1. -/
namespace start1
open Jvm.ClassFile
def u (s : String) : CpInfo := .utf8 (stringToUtf16 s)
/-- a pool by its gaps: so many unusable entries, then the entry; so many at the end -/
def gap : Nat → List CpInfo → List CpInfo
  | 0, r => r
  | n + 1, r => .unusable :: gap n r
def poolList (es : List (Nat × CpInfo)) (last : Nat) : List CpInfo := es.foldr (fun e r => gap e.1 (e.2 :: r)) (gap last [])
def pool (es : List (Nat × CpInfo)) (last : Nat) : Array CpInfo := ⟨poolList es last⟩
def fileOf (pool : Array CpInfo) (this : Nat) (attrs : Array Attribute := #[]) (ms : Array MethodInfo := #[]) (fl : Nat := 33) (sup : Nat := 0) (ifs : Array Nat := #[]) (fds : Array FieldInfo := #[]) : ClassFile where
  minorVersion := 0
  majorVersion := 65
  constantPool := pool
  accessFlags := fl
  thisClass := this
  superClass := sup
  interfaces := ifs
  fields := fds
  methods := ms
  attributes := attrs
def plain (name : String) (sup : Option ClassId) : Class where
  name := name
  kind := .ordinary
  loader := none
  accessFlags := 33
  super := sup
  interfaces := #[]
  cf := none
  fields := #[]
  methods := #[]
  instanceTypes := #[]
  staticTypes := #[]
  resolved := #[]
  callSites := []
  init := .initialized
  statics := none
  mirror := none

def pool0 : Array CpInfo := pool [(5, u "<init>"), (0, u "()V"), (1, .class_ 10), (1, u "java/lang/Object")] 113

def k0m0 : Method := { name := "<init>", desc := "()V", sig := { parameters := [], returnType := none }, accessFlags := 1, code := none }
/-- java/lang/Object -/
def k0 : Class := { plain "java/lang/Object" none with
  accessFlags := 33
  interfaces := #[]
  cf := some (fileOf pool0 8 #[] #[{ accessFlags := 1, nameIndex := 5, descriptorIndex := 6, attributes := #[] }] 33 0 #[] #[])
  fields := #[]
  methods := #[k0m0]
  instanceTypes := #[]
  staticTypes := #[]
  resolved := Array.replicate 124 none
  statics := none }

def pool1 : Array CpInfo := pool [(2, .class_ 4), (1, u "java/lang/Object"), (0, u "<init>"), (0, u "()V"), (0, .class_ 8), (0, u "com/example/kilnbyte/kilnbyte/tree/Operator"), (0, .fieldref 7 10), (0, .nameAndType 11 12), (0, u "MULTIPLY"), (0, u "Lcom/example/kilnbyte/kilnbyte/tree/Operator;"), (0, .fieldref 7 14), (0, .nameAndType 15 12), (0, u "DIVIDE"), (0, .fieldref 7 17), (0, .nameAndType 18 12), (0, u "REMAINDER"), (0, .fieldref 7 20), (0, .nameAndType 21 12), (0, u "ADD"), (0, .fieldref 7 23), (0, .nameAndType 24 12), (0, u "SUBTRACT"), (0, .fieldref 7 26), (0, .nameAndType 27 12), (0, u "SHIFT_LEFT"), (0, .fieldref 7 29), (0, .nameAndType 30 12), (0, u "SHIFT_RIGHT"), (0, .fieldref 7 32), (0, .nameAndType 33 12), (0, u "UNSIGNED_SHIFT_RIGHT"), (0, .fieldref 7 35), (0, .nameAndType 36 12), (0, u "LESS"), (0, .fieldref 7 38), (0, .nameAndType 39 12), (0, u "GREATER"), (0, .fieldref 7 41), (0, .nameAndType 42 12), (0, u "LESS_EQUAL"), (0, .fieldref 7 44), (0, .nameAndType 45 12), (0, u "GREATER_EQUAL"), (0, .fieldref 7 47), (0, .nameAndType 48 12), (0, u "EQUAL"), (0, .fieldref 7 50), (0, .nameAndType 51 12), (0, u "NOT_EQUAL"), (0, .fieldref 7 53), (0, .nameAndType 54 12), (0, u "AND"), (0, .fieldref 7 56), (0, .nameAndType 57 12), (0, u "XOR"), (0, .fieldref 7 59), (0, .nameAndType 60 12), (0, u "OR"), (0, .fieldref 7 62), (0, .nameAndType 63 12), (0, u "CONDITIONAL_AND"), (0, .fieldref 7 65), (0, .nameAndType 66 12), (0, u "CONDITIONAL_OR"), (0, .fieldref 7 68), (0, .nameAndType 69 12), (0, u "PLUS"), (0, .fieldref 7 71), (0, .nameAndType 72 12), (0, u "MINUS"), (0, .fieldref 7 74), (0, .nameAndType 75 12), (0, u "COMPLEMENT"), (0, .fieldref 7 77), (0, .nameAndType 78 12), (0, u "NOT"), (0, .fieldref 7 80), (0, .nameAndType 81 12), (0, u "PRE_INCREMENT"), (0, .fieldref 7 83), (0, .nameAndType 84 12), (0, u "PRE_DECREMENT"), (0, .fieldref 7 86), (0, .nameAndType 87 12), (0, u "POST_INCREMENT"), (0, .fieldref 7 89), (0, .nameAndType 90 12), (0, u "POST_DECREMENT"), (0, .integer 2147483647), (0, .methodref 7 93), (0, .nameAndType 94 95), (0, u "precedence"), (0, u "()I"), (0, .methodref 7 97), (0, .nameAndType 98 99), (0, u "isBitwise"), (0, u "()Z"), (0, .class_ 101), (0, u "com/example/kilnbyte/kilnbyte/tree/OperatorIsBitwisePinLaw"), (2, u "law"), (0, u "(I)Z")] 5

def k1m0 : Method := { name := "<init>", desc := "()V", sig := { parameters := [], returnType := none }, accessFlags := 2, code := none }
def k1c1 : Code := { maxStack := 4, maxLocals := 6, code := code, exceptionTable := #[], attributes := #[] }
def k1m1 : Method := { name := "law", desc := "(I)Z", sig := { parameters := [.int], returnType := some .boolean }, accessFlags := 9, code := some k1c1 }
/-- com/example/kilnbyte/kilnbyte/tree/OperatorIsBitwisePinLaw -/
def k1 : Class := { plain "com/example/kilnbyte/kilnbyte/tree/OperatorIsBitwisePinLaw" (some 0) with
  accessFlags := 49
  interfaces := #[]
  cf := some (fileOf pool1 100 #[] #[{ accessFlags := 2, nameIndex := 5, descriptorIndex := 6, attributes := #[] }, { accessFlags := 9, nameIndex := 104, descriptorIndex := 105, attributes := #[] }] 49 2 #[] #[])
  fields := #[]
  methods := #[k1m0, k1m1]
  instanceTypes := #[]
  staticTypes := #[]
  resolved := Array.replicate 111 none
  statics := none }

def pool2 : Array CpInfo := pool [(1, .class_ 2), (0, u "java/lang/constant/Constable"), (0, .class_ 4), (0, u "java/lang/Object")] 6

/-- java/lang/constant/Constable -/
def k2 : Class := { plain "java/lang/constant/Constable" (some 0) with
  accessFlags := 1537
  interfaces := #[]
  cf := some (fileOf pool2 1 #[] #[] 1537 3 #[] #[])
  fields := #[]
  methods := #[]
  instanceTypes := #[]
  staticTypes := #[]
  resolved := Array.replicate 11 none
  statics := none }

def pool3 : Array CpInfo := pool [(1, .class_ 2), (0, u "java/lang/Comparable"), (0, .class_ 4), (0, u "java/lang/Object")] 7

/-- java/lang/Comparable -/
def k3 : Class := { plain "java/lang/Comparable" (some 0) with
  accessFlags := 1537
  interfaces := #[]
  cf := some (fileOf pool3 1 #[] #[] 1537 3 #[] #[])
  fields := #[]
  methods := #[]
  instanceTypes := #[]
  staticTypes := #[]
  resolved := Array.replicate 12 none
  statics := none }

def pool4 : Array CpInfo := pool [(1, .class_ 2), (0, u "java/io/Serializable"), (0, .class_ 4), (0, u "java/lang/Object")] 2

/-- java/io/Serializable -/
def k4 : Class := { plain "java/io/Serializable" (some 0) with
  accessFlags := 1537
  interfaces := #[]
  cf := some (fileOf pool4 1 #[] #[] 1537 3 #[] #[])
  fields := #[]
  methods := #[]
  instanceTypes := #[]
  staticTypes := #[]
  resolved := Array.replicate 7 none
  statics := none }

def pool5 : Array CpInfo := pool [(2, .class_ 4), (1, u "java/lang/Enum"), (0, u "name"), (0, u "Ljava/lang/String;"), (2, u "ordinal"), (0, u "I"), (1, .class_ 14), (1, u "java/lang/Object"), (4, u "hash"), (86, .class_ 108), (1, u "java/lang/Enum$EnumDesc"), (2, .class_ 112), (0, u "java/lang/constant/Constable"), (0, .class_ 114), (0, u "java/lang/Comparable"), (0, .class_ 116), (0, u "java/io/Serializable")] 87

/-- java/lang/Enum -/
def k5 : Class := { plain "java/lang/Enum" (some 0) with
  accessFlags := 1057
  interfaces := #[2, 3, 4]
  cf := some (fileOf pool5 2 #[.nestMembers #[106]] #[] 1057 12 #[111, 113, 115] #[{ accessFlags := 18, nameIndex := 5, descriptorIndex := 6, attributes := #[] }, { accessFlags := 18, nameIndex := 9, descriptorIndex := 10, attributes := #[] }, { accessFlags := 2, nameIndex := 19, descriptorIndex := 10, attributes := #[] }])
  fields := #[{ name := "name", type := (.object "java/lang/String"), accessFlags := 18, slot := 0, constantValue := 0 }, { name := "ordinal", type := .int, accessFlags := 18, slot := 1, constantValue := 0 }, { name := "hash", type := .int, accessFlags := 2, slot := 2, constantValue := 0 }]
  methods := #[]
  instanceTypes := #[(.object "java/lang/String"), .int, .int]
  staticTypes := #[]
  resolved := Array.replicate 204 none
  statics := none }

def pool6 : Array CpInfo := pool [(1, .class_ 2), (0, u "com/example/kilnbyte/kilnbyte/tree/Operator"), (2, u "MULTIPLY"), (0, u "Lcom/example/kilnbyte/kilnbyte/tree/Operator;"), (2, u "DIVIDE"), (2, u "REMAINDER"), (2, u "ADD"), (2, u "SUBTRACT"), (2, u "SHIFT_LEFT"), (2, u "SHIFT_RIGHT"), (2, u "UNSIGNED_SHIFT_RIGHT"), (2, u "LESS"), (2, u "GREATER"), (2, u "LESS_EQUAL"), (2, u "GREATER_EQUAL"), (2, u "EQUAL"), (2, u "NOT_EQUAL"), (0, .fieldref 1 47), (0, .nameAndType 48 6), (0, u "AND"), (0, .fieldref 1 50), (0, .nameAndType 51 6), (0, u "XOR"), (0, .fieldref 1 53), (0, .nameAndType 54 6), (0, u "OR"), (2, u "CONDITIONAL_AND"), (2, u "CONDITIONAL_OR"), (2, u "PLUS"), (2, u "MINUS"), (2, u "COMPLEMENT"), (2, u "NOT"), (2, u "PRE_INCREMENT"), (2, u "PRE_DECREMENT"), (2, u "POST_INCREMENT"), (2, u "POST_DECREMENT"), (2, u "$VALUES"), (0, u "[Lcom/example/kilnbyte/kilnbyte/tree/Operator;"), (6, .class_ 97), (1, u "java/lang/Enum"), (8, u "symbol"), (0, u "Ljava/lang/String;"), (0, .fieldref 1 109), (0, .nameAndType 110 111), (0, u "precedence"), (0, u "I"), (3, u "()Z"), (93, u "()I"), (3, u "isBitwise")] 7

def k6c0 : Code := { maxStack := 1, maxLocals := 1, code := prog_214_method_5_code, exceptionTable := #[], attributes := #[] }
def k6m0 : Method := { name := "precedence", desc := "()I", sig := { parameters := [], returnType := some .int }, accessFlags := 1, code := some k6c0 }
def k6c1 : Code := { maxStack := 2, maxLocals := 1, code := prog_214_method_10_code, exceptionTable := #[], attributes := #[] }
def k6m1 : Method := { name := "isBitwise", desc := "()Z", sig := { parameters := [], returnType := some .boolean }, accessFlags := 1, code := some k6c1 }
/-- com/example/kilnbyte/kilnbyte/tree/Operator -/
def k6 : Class := { plain "com/example/kilnbyte/kilnbyte/tree/Operator" (some 5) with
  accessFlags := 16433
  interfaces := #[]
  cf := some (fileOf pool6 1 #[] #[{ accessFlags := 1, nameIndex := 110, descriptorIndex := 209, attributes := #[] }, { accessFlags := 1, nameIndex := 213, descriptorIndex := 115, attributes := #[] }] 16433 95 #[] #[{ accessFlags := 16409, nameIndex := 5, descriptorIndex := 6, attributes := #[] }, { accessFlags := 16409, nameIndex := 9, descriptorIndex := 6, attributes := #[] }, { accessFlags := 16409, nameIndex := 12, descriptorIndex := 6, attributes := #[] }, { accessFlags := 16409, nameIndex := 15, descriptorIndex := 6, attributes := #[] }, { accessFlags := 16409, nameIndex := 18, descriptorIndex := 6, attributes := #[] }, { accessFlags := 16409, nameIndex := 21, descriptorIndex := 6, attributes := #[] }, { accessFlags := 16409, nameIndex := 24, descriptorIndex := 6, attributes := #[] }, { accessFlags := 16409, nameIndex := 27, descriptorIndex := 6, attributes := #[] }, { accessFlags := 16409, nameIndex := 30, descriptorIndex := 6, attributes := #[] }, { accessFlags := 16409, nameIndex := 33, descriptorIndex := 6, attributes := #[] }, { accessFlags := 16409, nameIndex := 36, descriptorIndex := 6, attributes := #[] }, { accessFlags := 16409, nameIndex := 39, descriptorIndex := 6, attributes := #[] }, { accessFlags := 16409, nameIndex := 42, descriptorIndex := 6, attributes := #[] }, { accessFlags := 16409, nameIndex := 45, descriptorIndex := 6, attributes := #[] }, { accessFlags := 16409, nameIndex := 48, descriptorIndex := 6, attributes := #[] }, { accessFlags := 16409, nameIndex := 51, descriptorIndex := 6, attributes := #[] }, { accessFlags := 16409, nameIndex := 54, descriptorIndex := 6, attributes := #[] }, { accessFlags := 16409, nameIndex := 57, descriptorIndex := 6, attributes := #[] }, { accessFlags := 16409, nameIndex := 60, descriptorIndex := 6, attributes := #[] }, { accessFlags := 16409, nameIndex := 63, descriptorIndex := 6, attributes := #[] }, { accessFlags := 16409, nameIndex := 66, descriptorIndex := 6, attributes := #[] }, { accessFlags := 16409, nameIndex := 69, descriptorIndex := 6, attributes := #[] }, { accessFlags := 16409, nameIndex := 72, descriptorIndex := 6, attributes := #[] }, { accessFlags := 16409, nameIndex := 75, descriptorIndex := 6, attributes := #[] }, { accessFlags := 16409, nameIndex := 78, descriptorIndex := 6, attributes := #[] }, { accessFlags := 16409, nameIndex := 81, descriptorIndex := 6, attributes := #[] }, { accessFlags := 16409, nameIndex := 84, descriptorIndex := 6, attributes := #[] }, { accessFlags := 18, nameIndex := 106, descriptorIndex := 107, attributes := #[] }, { accessFlags := 18, nameIndex := 110, descriptorIndex := 111, attributes := #[] }, { accessFlags := 4122, nameIndex := 87, descriptorIndex := 88, attributes := #[] }])
  fields := #[{ name := "MULTIPLY", type := (.object "com/example/kilnbyte/kilnbyte/tree/Operator"), accessFlags := 16409, slot := 0, constantValue := 0 }, { name := "DIVIDE", type := (.object "com/example/kilnbyte/kilnbyte/tree/Operator"), accessFlags := 16409, slot := 1, constantValue := 0 }, { name := "REMAINDER", type := (.object "com/example/kilnbyte/kilnbyte/tree/Operator"), accessFlags := 16409, slot := 2, constantValue := 0 }, { name := "ADD", type := (.object "com/example/kilnbyte/kilnbyte/tree/Operator"), accessFlags := 16409, slot := 3, constantValue := 0 }, { name := "SUBTRACT", type := (.object "com/example/kilnbyte/kilnbyte/tree/Operator"), accessFlags := 16409, slot := 4, constantValue := 0 }, { name := "SHIFT_LEFT", type := (.object "com/example/kilnbyte/kilnbyte/tree/Operator"), accessFlags := 16409, slot := 5, constantValue := 0 }, { name := "SHIFT_RIGHT", type := (.object "com/example/kilnbyte/kilnbyte/tree/Operator"), accessFlags := 16409, slot := 6, constantValue := 0 }, { name := "UNSIGNED_SHIFT_RIGHT", type := (.object "com/example/kilnbyte/kilnbyte/tree/Operator"), accessFlags := 16409, slot := 7, constantValue := 0 }, { name := "LESS", type := (.object "com/example/kilnbyte/kilnbyte/tree/Operator"), accessFlags := 16409, slot := 8, constantValue := 0 }, { name := "GREATER", type := (.object "com/example/kilnbyte/kilnbyte/tree/Operator"), accessFlags := 16409, slot := 9, constantValue := 0 }, { name := "LESS_EQUAL", type := (.object "com/example/kilnbyte/kilnbyte/tree/Operator"), accessFlags := 16409, slot := 10, constantValue := 0 }, { name := "GREATER_EQUAL", type := (.object "com/example/kilnbyte/kilnbyte/tree/Operator"), accessFlags := 16409, slot := 11, constantValue := 0 }, { name := "EQUAL", type := (.object "com/example/kilnbyte/kilnbyte/tree/Operator"), accessFlags := 16409, slot := 12, constantValue := 0 }, { name := "NOT_EQUAL", type := (.object "com/example/kilnbyte/kilnbyte/tree/Operator"), accessFlags := 16409, slot := 13, constantValue := 0 }, { name := "AND", type := (.object "com/example/kilnbyte/kilnbyte/tree/Operator"), accessFlags := 16409, slot := 14, constantValue := 0 }, { name := "XOR", type := (.object "com/example/kilnbyte/kilnbyte/tree/Operator"), accessFlags := 16409, slot := 15, constantValue := 0 }, { name := "OR", type := (.object "com/example/kilnbyte/kilnbyte/tree/Operator"), accessFlags := 16409, slot := 16, constantValue := 0 }, { name := "CONDITIONAL_AND", type := (.object "com/example/kilnbyte/kilnbyte/tree/Operator"), accessFlags := 16409, slot := 17, constantValue := 0 }, { name := "CONDITIONAL_OR", type := (.object "com/example/kilnbyte/kilnbyte/tree/Operator"), accessFlags := 16409, slot := 18, constantValue := 0 }, { name := "PLUS", type := (.object "com/example/kilnbyte/kilnbyte/tree/Operator"), accessFlags := 16409, slot := 19, constantValue := 0 }, { name := "MINUS", type := (.object "com/example/kilnbyte/kilnbyte/tree/Operator"), accessFlags := 16409, slot := 20, constantValue := 0 }, { name := "COMPLEMENT", type := (.object "com/example/kilnbyte/kilnbyte/tree/Operator"), accessFlags := 16409, slot := 21, constantValue := 0 }, { name := "NOT", type := (.object "com/example/kilnbyte/kilnbyte/tree/Operator"), accessFlags := 16409, slot := 22, constantValue := 0 }, { name := "PRE_INCREMENT", type := (.object "com/example/kilnbyte/kilnbyte/tree/Operator"), accessFlags := 16409, slot := 23, constantValue := 0 }, { name := "PRE_DECREMENT", type := (.object "com/example/kilnbyte/kilnbyte/tree/Operator"), accessFlags := 16409, slot := 24, constantValue := 0 }, { name := "POST_INCREMENT", type := (.object "com/example/kilnbyte/kilnbyte/tree/Operator"), accessFlags := 16409, slot := 25, constantValue := 0 }, { name := "POST_DECREMENT", type := (.object "com/example/kilnbyte/kilnbyte/tree/Operator"), accessFlags := 16409, slot := 26, constantValue := 0 }, { name := "symbol", type := (.object "java/lang/String"), accessFlags := 18, slot := 3, constantValue := 0 }, { name := "precedence", type := .int, accessFlags := 18, slot := 4, constantValue := 0 }, { name := "$VALUES", type := (.array (.object "com/example/kilnbyte/kilnbyte/tree/Operator")), accessFlags := 4122, slot := 27, constantValue := 0 }]
  methods := #[k6m0, k6m1]
  instanceTypes := #[(.object "java/lang/String"), .int, .int, (.object "java/lang/String"), .int]
  staticTypes := #[(.object "com/example/kilnbyte/kilnbyte/tree/Operator"), (.object "com/example/kilnbyte/kilnbyte/tree/Operator"), (.object "com/example/kilnbyte/kilnbyte/tree/Operator"), (.object "com/example/kilnbyte/kilnbyte/tree/Operator"), (.object "com/example/kilnbyte/kilnbyte/tree/Operator"), (.object "com/example/kilnbyte/kilnbyte/tree/Operator"), (.object "com/example/kilnbyte/kilnbyte/tree/Operator"), (.object "com/example/kilnbyte/kilnbyte/tree/Operator"), (.object "com/example/kilnbyte/kilnbyte/tree/Operator"), (.object "com/example/kilnbyte/kilnbyte/tree/Operator"), (.object "com/example/kilnbyte/kilnbyte/tree/Operator"), (.object "com/example/kilnbyte/kilnbyte/tree/Operator"), (.object "com/example/kilnbyte/kilnbyte/tree/Operator"), (.object "com/example/kilnbyte/kilnbyte/tree/Operator"), (.object "com/example/kilnbyte/kilnbyte/tree/Operator"), (.object "com/example/kilnbyte/kilnbyte/tree/Operator"), (.object "com/example/kilnbyte/kilnbyte/tree/Operator"), (.object "com/example/kilnbyte/kilnbyte/tree/Operator"), (.object "com/example/kilnbyte/kilnbyte/tree/Operator"), (.object "com/example/kilnbyte/kilnbyte/tree/Operator"), (.object "com/example/kilnbyte/kilnbyte/tree/Operator"), (.object "com/example/kilnbyte/kilnbyte/tree/Operator"), (.object "com/example/kilnbyte/kilnbyte/tree/Operator"), (.object "com/example/kilnbyte/kilnbyte/tree/Operator"), (.object "com/example/kilnbyte/kilnbyte/tree/Operator"), (.object "com/example/kilnbyte/kilnbyte/tree/Operator"), (.object "com/example/kilnbyte/kilnbyte/tree/Operator"), (.array (.object "com/example/kilnbyte/kilnbyte/tree/Operator"))]
  resolved := Array.replicate 221 none
  statics := some 0 }

def pool7 : Array CpInfo := pool [(1, u "java/lang/Cloneable"), (0, .class_ 1), (0, u "java/lang/Object"), (0, .class_ 3)] 3

/-- java/lang/Cloneable -/
def k7 : Class := { plain "java/lang/Cloneable" (some 0) with
  accessFlags := 1537
  interfaces := #[]
  cf := some (fileOf pool7 2 #[] #[] 1537 4 #[] #[])
  fields := #[]
  methods := #[]
  instanceTypes := #[]
  staticTypes := #[]
  resolved := Array.replicate 8 none
  statics := none }

/-- the primitive byte -/
def k8 : Class := { plain "byte" none with kind := .primitive 'B', accessFlags := 0x411 }
/-- [B -/
def k9 : Class := { plain "[B" (some 0) with kind := .array 8 .byte, interfaces := #[7, 4], accessFlags := 1041 }

/-- the primitive int -/
def k10 : Class := { plain "int" none with kind := .primitive 'I', accessFlags := 0x411 }
/-- [I -/
def k11 : Class := { plain "[I" (some 0) with kind := .array 10 .int, interfaces := #[7, 4], accessFlags := 1041 }

/-- [Lcom/example/kilnbyte/kilnbyte/tree/Operator; -/
def k12 : Class := { plain "[Lcom/example/kilnbyte/kilnbyte/tree/Operator;" (some 0) with kind := .array 6 (.object "com/example/kilnbyte/kilnbyte/tree/Operator"), interfaces := #[7, 4], accessFlags := 1041 }

def heap : Heap := #[{ cls := 6, slots := #[.ref 1, .ref 2, .ref 3, .ref 4, .ref 5, .ref 6, .ref 7, .ref 8, .ref 9, .ref 10, .ref 11, .ref 12, .ref 13, .ref 14, .ref 15, .ref 16, .ref 17, .ref 18, .ref 19, .ref 20, .ref 21, .ref 22, .ref 23, .ref 24, .ref 25, .ref 26, .ref 27, .null], vm := .statics 6 },
  { cls := 6, slots := #[.null, .int 0, .int 0, .null, .int 10], vm := .none },
  { cls := 6, slots := #[.null, .int 1, .int 0, .null, .int 10], vm := .none },
  { cls := 6, slots := #[.null, .int 2, .int 0, .null, .int 10], vm := .none },
  { cls := 6, slots := #[.null, .int 3, .int 0, .null, .int 9], vm := .none },
  { cls := 6, slots := #[.null, .int 4, .int 0, .null, .int 9], vm := .none },
  { cls := 6, slots := #[.null, .int 5, .int 0, .null, .int 8], vm := .none },
  { cls := 6, slots := #[.null, .int 6, .int 0, .null, .int 8], vm := .none },
  { cls := 6, slots := #[.null, .int 7, .int 0, .null, .int 8], vm := .none },
  { cls := 6, slots := #[.null, .int 8, .int 0, .null, .int 7], vm := .none },
  { cls := 6, slots := #[.null, .int 9, .int 0, .null, .int 7], vm := .none },
  { cls := 6, slots := #[.null, .int 10, .int 0, .null, .int 7], vm := .none },
  { cls := 6, slots := #[.null, .int 11, .int 0, .null, .int 7], vm := .none },
  { cls := 6, slots := #[.null, .int 12, .int 0, .null, .int 6], vm := .none },
  { cls := 6, slots := #[.null, .int 13, .int 0, .null, .int 6], vm := .none },
  { cls := 6, slots := #[.null, .int 14, .int 0, .null, .int 5], vm := .none },
  { cls := 6, slots := #[.null, .int 15, .int 0, .null, .int 4], vm := .none },
  { cls := 6, slots := #[.null, .int 16, .int 0, .null, .int 3], vm := .none },
  { cls := 6, slots := #[.null, .int 17, .int 0, .null, .int 2], vm := .none },
  { cls := 6, slots := #[.null, .int 18, .int 0, .null, .int 1], vm := .none },
  { cls := 6, slots := #[.null, .int 19, .int 0, .null, .int 0], vm := .none },
  { cls := 6, slots := #[.null, .int 20, .int 0, .null, .int 0], vm := .none },
  { cls := 6, slots := #[.null, .int 21, .int 0, .null, .int 0], vm := .none },
  { cls := 6, slots := #[.null, .int 22, .int 0, .null, .int 0], vm := .none },
  { cls := 6, slots := #[.null, .int 23, .int 0, .null, .int 0], vm := .none },
  { cls := 6, slots := #[.null, .int 24, .int 0, .null, .int 0], vm := .none },
  { cls := 6, slots := #[.null, .int 25, .int 0, .null, .int 0], vm := .none },
  { cls := 6, slots := #[.null, .int 26, .int 0, .null, .int 0], vm := .none }]
def classes : Array Class := #[k0, k1, k2, k3, k4, k5, k6, k7, k8, k9, k10, k11, k12]
def interned : List (Array UInt16 × Addr) := []
def slotsUsed : Nat := 163
def theMethod : MethodId := ⟨1, 1⟩
def args0 : Array Value := #[.int 5]
def aboutOver (below : List Frame) : State where
  vm := { classes := classes, interned := interned.toArray }
  heap := heap
  slotsUsed := slotsUsed
  threads := #[{ frames := .invoking theMethod args0 :: below }]
def below0 : List Frame := [.native { method := ⟨0, 0⟩, args := #[] }]
def about1 : State := aboutOver below0
def p0 : Program := .bare "" "" ""
def e0 : Env := launch0.env 0 0 0
theorem w_frames : about1.frames = Frame.invoking theMethod args0 :: below0 := rfl
set_option maxRecDepth 65536 in
theorem w_args : argsFit about1.vm theMethod args0 = true := by decide +kernel
set_option maxRecDepth 65536 in
theorem w_heap : heapFits about1 = true := by decide +kernel
set_option maxRecDepth 65536 in
theorem w_runnable : about1.curStatus? = some .runnable := by decide +kernel
set_option maxRecDepth 65536 in
theorem w_alone : about1.alone = true := by decide +kernel
set_option maxRecDepth 65536 in
theorem w_named : about1.methodNamed? x = some theMethod := by decide +kernel
set_option maxRecDepth 65536 in
theorem w_hears : about1.hears theMethod below0 = true := by decide +kernel
set_option maxRecDepth 65536 in
theorem w_ripe : about1.ripe theMethod args0 below0 = true := by decide +kernel
theorem w_running : about1.status = .running := rfl
set_option maxRecDepth 65536 in
theorem w_room : about1.hasRoom e0.platform room_1 = true :=
  launch0.hasRoom_least _ room_1 (by decide +kernel) (by decide +kernel) (by decide +kernel) (by decide +kernel) (by decide +kernel) (by decide +kernel)
theorem allAtoms_all (ts : List Jvm.Cond) (a : Array Jvm.Value) (st : Jvm.State) : (allAtoms ts).before a st = ts.all (fun c => c.before a st) := by
  induction ts with
  | nil => rfl
  | cons c t ih =>
    show (Jvm.Cond.and c (allAtoms t)).before a st = _
    rw [Jvm.Cond.before_and, ih, List.all_cons]
def words1 : List Jvm.Cond := Jvm.Cond.code x code maxLocals ret :: tables_1
/-- a 'code' word, met by the world's own term for the bytes: nothing is compared byte by byte -/
theorem code_word {y : MethodName} {bytes : ByteArray} {mx : Nat} {rt : Option FieldType} {a : Array Value} {s : State} {m : MethodId} {meth : Method} {c : Code} (h1 : s.methodNamed? y = some m) (h2 : s.vm.method? m = some meth) (h3 : meth.code = some c) (h4 : c.code = bytes)
    (h5 : (c.maxLocals == mx && c.exceptionTable.isEmpty && decide (c.maxStack ≤ mostOperands) && decide (meth.sig.returnType = rt) && !meth.locks && decide (parseMethodDescriptor y.desc = some meth.sig)) = true) : (Jvm.Cond.code y bytes mx rt).before a s = true := by
  simp only [Bool.and_eq_true, beq_iff_eq, Bool.not_eq_true', decide_eq_true_eq] at h5
  obtain ⟨⟨⟨⟨⟨g1, g2⟩, g3⟩, g4⟩, g5⟩, g6⟩ := h5
  simp [Cond.before, Cond.holds, Cond.value, h1, h2, h3, h4, g1, g2, g3, g4, g5, g6]
def isCode : Jvm.Cond → Bool
  | .code _ _ _ _ => true
  | _ => false
theorem all_split {L : List Jvm.Cond} {P : Jvm.Cond → Bool} (h1 : L.all (fun c => isCode c || P c) = true) (h2 : ∀ c ∈ L.filter isCode, P c = true) : L.all P = true := by
  refine List.all_eq_true.mpr fun c hc => ?_
  have h := List.all_eq_true.mp h1 c hc
  rcases Bool.eq_false_or_eq_true (isCode c) with hi | hi
  · exact h2 c (List.mem_filter.mpr ⟨hc, hi⟩)
  · simpa [hi] using h
set_option maxRecDepth 65536 in
theorem w_c0 : (Jvm.Cond.code x code maxLocals ret).before args0 about1 = true := code_word (m := ⟨1, 1⟩) (meth := k1m1) (c := k1c1) (by decide +kernel) rfl rfl rfl (by decide +kernel)
set_option maxRecDepth 65536 in
theorem w_c1 : (Jvm.Cond.code ({ cls := "com/example/kilnbyte/kilnbyte/tree/Operator", name := "precedence", desc := "()I" } : Jvm.MethodName) prog_214_method_5_code (1 : Nat) (Option.some Jvm.ClassFile.FieldType.int)).before args0 about1 = true := code_word (m := ⟨6, 0⟩) (meth := k6m0) (c := k6c0) (by decide +kernel) rfl rfl rfl (by decide +kernel)
set_option maxRecDepth 65536 in
theorem w_c2 : (Jvm.Cond.code ({ cls := "com/example/kilnbyte/kilnbyte/tree/Operator", name := "isBitwise", desc := "()Z" } : Jvm.MethodName) prog_214_method_10_code (1 : Nat) (Option.some Jvm.ClassFile.FieldType.boolean)).before args0 about1 = true := code_word (m := ⟨6, 1⟩) (meth := k6m1) (c := k6c1) (by decide +kernel) rfl rfl rfl (by decide +kernel)
def codes1 : List Jvm.Cond := [Jvm.Cond.code x code maxLocals ret, Jvm.Cond.code ({ cls := "com/example/kilnbyte/kilnbyte/tree/Operator", name := "precedence", desc := "()I" } : Jvm.MethodName) prog_214_method_5_code (1 : Nat) (Option.some Jvm.ClassFile.FieldType.int), Jvm.Cond.code ({ cls := "com/example/kilnbyte/kilnbyte/tree/Operator", name := "isBitwise", desc := "()Z" } : Jvm.MethodName) prog_214_method_10_code (1 : Nat) (Option.some Jvm.ClassFile.FieldType.boolean)]
set_option maxRecDepth 65536 in
theorem codes_eq : words1.filter isCode = codes1 := rfl
theorem w_codes : ∀ c ∈ words1.filter isCode, c.before args0 about1 = true := by
  rw [codes_eq]
  intro c hc
  simp only [codes1, List.mem_cons, List.not_mem_nil, or_false] at hc
  rcases hc with rfl | rfl | rfl
  · exact w_c0
  · exact w_c1
  · exact w_c2
set_option maxRecDepth 65536 in
theorem w_t1 : (words1.take 24).all (fun c => isCode c || c.before args0 about1) = true := by decide +kernel
set_option maxRecDepth 65536 in
theorem w_t2 : ((words1.drop 24).take 24).all (fun c => isCode c || c.before args0 about1) = true := by decide +kernel
set_option maxRecDepth 65536 in
theorem w_t3 : (((words1.drop 24).drop 24).take 24).all (fun c => isCode c || c.before args0 about1) = true := by decide +kernel
set_option maxRecDepth 65536 in
theorem w_t4 : (((words1.drop 24).drop 24).drop 24).all (fun c => isCode c || c.before args0 about1) = true := by decide +kernel
theorem w_tables : (allAtoms (Jvm.Cond.code x code maxLocals ret :: tables_1)).before args0 about1 = true := by
  rw [allAtoms_all]
  show words1.all (fun c => c.before args0 about1) = true
  refine all_split ?_ w_codes
  rw [← List.take_append_drop 24 words1, List.all_append, w_t1, ← List.take_append_drop 24 (words1.drop 24), List.all_append, w_t2, ← List.take_append_drop 24 ((words1.drop 24).drop 24), List.all_append, w_t3, w_t4]
  rfl
set_option maxRecDepth 65536 in
theorem w_case : (Jvm.Cond.and given_1 narrow_1).before args0 about1 = true := by decide +kernel
theorem w_applies : (headSpec (Jvm.Cond.code x code maxLocals ret :: tables_1) room_1).applies x e0.platform about1 = true :=
  (Spec.applies_iff w_frames).mpr ⟨w_running, w_runnable, w_alone, w_named, w_hears, w_ripe, w_room, w_tables⟩
theorem atStart : AtStart classFile x code maxLocals ret World_1 tables_1 room_1 Calls_1 rest_1 Pre_1 launch0 p0 e0 about1 theMethod args0 below0 :=
  ⟨lists_1, trivial, launch0.admits_env _ _ _, launch0.least_env, fairChoices_fair.cas, fairChoices_fair.clock, w_frames, w_args, w_heap, w_applies, trivial, trivial, w_case⟩
end start1
theorem witness_1 : WitnessClaimed_1 := ⟨start1.p0, start1.e0, start1.about1, start1.theMethod, start1.args0, start1.below0, start1.atStart⟩
end Jvm.Pilot.@@N@@
