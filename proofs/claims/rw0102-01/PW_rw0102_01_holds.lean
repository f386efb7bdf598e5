import PyProof.Rows.All
import Wide.All
import OpenK.AllK
import Wide.FinOn
import PySem.Challenge.RW_rw0102_01
set_option Elab.async false
set_option maxRecDepth 100000
namespace Mine
open PySem PySem.W PySem.Calls PyProof.Rows
noncomputable section
noncomputable abbrev pw : Program := PySem.Challenge.pw_rw0102_01
noncomputable abbrev bE : List Stmt := behindTheImports pw
noncomputable def stN (i : Nat) : Stmt := bE[i]?.getD (.Pass default)
noncomputable def fArgs (i : Nat) : Arguments := match stN i with | .FunctionDef _ a _ _ _ _ _ _ _ _ => a | _ => ⟨[], [], none, [], [], none, []⟩
noncomputable def fBody (i : Nat) : List Stmt := match stN i with | .FunctionDef _ _ b _ _ _ _ _ _ _ => b | _ => []
noncomputable def fScope (i : Nat) : Scope := match stN i with | .FunctionDef _ _ _ _ _ _ s _ _ _ => s | _ => pw.main.scope
noncomputable def es (P : Params) (x : Str) (t : Tok) (v : Value) : DictEntry := ⟨PyData.keyHash P x, .str x t, v⟩
noncomputable def env : Env := { scope := pw.main.scope, locals := mainNs, globals := mainNs, cells := [], code := .ref 13, frame := some 14 }
noncomputable abbrev cE : Code := .body bE env
noncomputable abbrev fB : List Frame := [topFrame ⟨0, 0, 0, 0⟩]
noncomputable abbrev ann : Option Value := some (.ref 6)
noncomputable def ob11 (P : Params) : Obj := { cls := (.type "tuple"), dict := none, data := (.seq #[] 0), slots := #[] }
noncomputable def ob12 (P : Params) : Obj := { cls := .none, dict := none, data := (.fields #[]), slots := #[] }
noncomputable def ob13 (P : Params) : Obj := { cls := (.type "code"), dict := none, data := (.fields #[(.str (Str.ofString "<module>") 182), (.str (Str.ofString "<module>") 183), (.str (Str.ofString "/claim/cut.py") 184), (.int 1 0), (.int 0 0), (.int 0 0), (.int 0 0), (.int 0 0), (.ref 11), (.bool false), (.int 181 0), (.ref 12), .none, .none, .none, .none, (.int 185 0), (.int 1 0), (.str (Str.ofString "/claim/cut.py") 186)]), slots := #[] }
noncomputable def ob14 (P : Params) : Obj := { cls := (.type "frame"), dict := none, data := .plain, slots := #[some (.ref 13), some (.ref 3), some (.ref 3), none, some (.str (Str.ofString "__main__") 164), none, some (.ref 0)] }
noncomputable def oa3 (P : Params) : Obj := { cls := (.type "dict"), dict := none, data := (.dict #[(es P (Str.ofString "__name__") 165 (.str (Str.ofString "cpy313.stringprep") 187)), (es P (Str.ofString "__doc__") 166 .none), (es P (Str.ofString "__package__") 167 .none), (es P (Str.ofString "__loader__") 168 (.builtin "__main__.__loader__#opaque")), (es P (Str.ofString "__spec__") 169 .none), (es P (Str.ofString "__annotations__") 170 (.ref 6)), (es P (Str.ofString "__builtins__") 171 (.ref 4)), (es P (Str.ofString "__file__") 173 (.str (Str.ofString "/claim/cut.py") 172)), (es P (Str.ofString "__cached__") 174 .none), (es P (Str.ofString "b1_set") 248 (.ref 22)), (es P (Str.ofString "in_table_b1") 255 (.ref 32))] 11), slots := #[] }
noncomputable def oa12 (P : Params) : Obj := { cls := .none, dict := none, data := (.fields #[(.int 3 0), (.int 0 0), (.ref 31)]), slots := #[] }
noncomputable def oa15 (P : Params) : Obj := { cls := (.type "list"), dict := none, data := (.seq #[(.int 173 189), (.int 847 190), (.int 6150 191), (.int 6155 192), (.int 6156 193), (.int 6157 194), (.int 8203 195), (.int 8204 196), (.int 8205 197), (.int 8288 198), (.int 65279 199)] 0), slots := #[] }
noncomputable def oa16 (P : Params) : Obj := { cls := (.type "range"), dict := none, data := (.fields #[(.int 65024 200), (.int 65040 201), (.int 1 202)]), slots := #[] }
noncomputable def oa17 (P : Params) : Obj := { cls := (.type "list"), dict := none, data := (.seq #[(.int 65024 205), (.int 65025 206), (.int 65026 207), (.int 65027 208), (.int 65028 209), (.int 65029 210), (.int 65030 211), (.int 65031 212), (.int 65032 213), (.int 65033 214), (.int 65034 215), (.int 65035 216), (.int 65036 217), (.int 65037 218), (.int 65038 219), (.int 65039 220)] 18), slots := #[] }
noncomputable def oa18 (P : Params) : Obj := { cls := (.type "range_iterator"), dict := none, data := (.fields #[(.int 65040 0), (.int 0 0), (.int 1 0)]), slots := #[] }
noncomputable def oa19 (P : Params) : Obj := { cls := (.type "tuple"), dict := none, data := (.seq #[] 0), slots := #[] }
noncomputable def oa20 (P : Params) : Obj := { cls := (.type "StopIteration"), dict := none, data := (.fields #[(.ref 19), .none, .none, .none, (.bool false), .none]), slots := #[] }
noncomputable def oa21 (P : Params) : Obj := { cls := (.type "list"), dict := none, data := (.seq #[(.int 173 189), (.int 847 190), (.int 6150 191), (.int 6155 192), (.int 6156 193), (.int 6157 194), (.int 8203 195), (.int 8204 196), (.int 8205 197), (.int 8288 198), (.int 65279 199), (.int 65024 205), (.int 65025 206), (.int 65026 207), (.int 65027 208), (.int 65028 209), (.int 65029 210), (.int 65030 211), (.int 65031 212), (.int 65032 213), (.int 65033 214), (.int 65034 215), (.int 65035 216), (.int 65036 217), (.int 65037 218), (.int 65038 219), (.int 65039 220)] 0), slots := #[] }
noncomputable def oa22 (P : Params) : Obj := { cls := (.type "set"), dict := none, data := (.set #[(65024, (.int 65024 205)), (65025, (.int 65025 206)), (65026, (.int 65026 207)), (65027, (.int 65027 208)), (65028, (.int 65028 209)), (65029, (.int 65029 210)), (6150, (.int 6150 191)), (65030, (.int 65030 211)), (65031, (.int 65031 212)), (65032, (.int 65032 213)), (65033, (.int 65033 214)), (6155, (.int 6155 192)), (6156, (.int 6156 193)), (6157, (.int 6157 194)), (8203, (.int 8203 195)), (8204, (.int 8204 196)), (8205, (.int 8205 197)), (65034, (.int 65034 215)), (65035, (.int 65035 216)), (65036, (.int 65036 217)), (65037, (.int 65037 218)), (65038, (.int 65038 219)), (65039, (.int 65039 220)), (173, (.int 173 189)), (847, (.int 847 190)), (8288, (.int 8288 198)), (65279, (.int 65279 199))] 29 { mask := 127, place := #[0, 1, 2, 3, 4, 5, 6, 7, 8, 9, 10, 11, 12, 13, 14, 15, 16, 17, 18, 19, 20, 21, 22, 45, 79, 96, 127], dummies := #[], finger := 0, led := !P.followText "set-order", moves := 2, plain := true }), slots := #[] }
noncomputable def oa23 (P : Params) : Obj := { cls := (.type "list_iterator"), dict := none, data := (.fields #[.none, (.int 27 0)]), slots := #[] }
noncomputable def oa24 (P : Params) : Obj := { cls := (.type "tuple"), dict := none, data := (.seq #[] 0), slots := #[] }
noncomputable def oa25 (P : Params) : Obj := { cls := (.type "StopIteration"), dict := none, data := (.fields #[(.ref 24), .none, .none, .none, (.bool false), .none]), slots := #[] }
noncomputable def oa26 (P : Params) : Obj := { cls := (.type "tuple"), dict := none, data := (.seq #[] 0), slots := #[] }
noncomputable def oa27 (P : Params) : Obj := { cls := .none, dict := none, data := (.fields #[]), slots := #[] }
noncomputable def oa28 (P : Params) : Obj := { cls := (.type "tuple"), dict := none, data := (.seq #[(.str (Str.ofString "code") 252)] 0), slots := #[] }
noncomputable def oa29 (P : Params) : Obj := { cls := (.type "tuple"), dict := none, data := (.seq #[] 0), slots := #[] }
noncomputable def oa30 (P : Params) : Obj := { cls := .none, dict := none, data := (.func { name := (Str.ofString "in_table_b1"), qualname := (Str.ofString "in_table_b1"), params := fArgs 2, body := .stmts (fBody 2), scope := fScope 2, globals := 0, closure := [], defaults := .none, kwdefaults := .none, doc := .none, pyModule := .none, annotations := none, code := .none, closureTuple := .none, builtins := 0 }), slots := #[] }
noncomputable def oa31 (P : Params) : Obj := { cls := (.type "code"), dict := none, data := (.fields #[(.str (Str.ofString "in_table_b1") 249), (.str (Str.ofString "in_table_b1") 250), (.str (Str.ofString "/claim/cut.py") 251), (.int 3 0), (.int 1 0), (.int 0 0), (.int 0 0), (.int 3 0), (.ref 26), (.bool true), (.int 181 0), (.ref 27), .none, (.ref 28), (.ref 29), (.ref 30), (.int 253 0), (.int 3 0), (.str (Str.ofString "/claim/cut.py") 254)]), slots := #[] }
noncomputable def oa32 (P : Params) : Obj := { cls := (.type "function"), dict := none, data := (.func { name := (Str.ofString "in_table_b1"), qualname := (Str.ofString "in_table_b1"), params := fArgs 2, body := .stmts (fBody 2), scope := fScope 2, globals := 3, closure := [], defaults := .none, kwdefaults := .none, doc := .none, pyModule := (.str (Str.ofString "cpy313.stringprep") 187), annotations := none, code := (.ref 31), closureTuple := .none, builtins := 0 }), slots := #[] }
noncomputable def Tb (P : Params) : BT := (.node (boot_o_0 P) (.node (boot_o_1 P) (.node (boot_o_3 P) (.node (boot_o_7 P) .nil .nil) (.node (ob11 P) .nil .nil)) (.node (boot_o_5 P) (.node (boot_o_9 P) .nil .nil) (.node (ob13 P) .nil .nil))) (.node (boot_o_2 P) (.node (boot_o_4 P) (.node (boot_o_8 P) .nil .nil) (.node (ob12 P) .nil .nil)) (.node (boot_o_6 P) (.node (boot_o_10 P) .nil .nil) (.node (ob14 P) .nil .nil))))
noncomputable abbrev Sb (w : World) (os : OsState) : SharedT := ⟨Tb w.params, 15, {}, ⟨[]⟩, ⟨0, 0, 0, 0⟩, 187, os⟩
noncomputable def Ta (P : Params) : BT := (.node (boot_o_0 P) (.node (boot_o_1 P) (.node (oa3 P) (.node (boot_o_7 P) (.node (oa15 P) (.node (oa31 P) .nil .nil) .nil) (.node (oa23 P) .nil .nil)) (.node (ob11 P) (.node (oa19 P) .nil .nil) (.node (oa27 P) .nil .nil))) (.node (boot_o_5 P) (.node (boot_o_9 P) (.node (oa17 P) .nil .nil) (.node (oa25 P) .nil .nil)) (.node (ob13 P) (.node (oa21 P) .nil .nil) (.node (oa29 P) .nil .nil)))) (.node (boot_o_2 P) (.node (boot_o_4 P) (.node (boot_o_8 P) (.node (oa16 P) (.node (oa32 P) .nil .nil) .nil) (.node (oa24 P) .nil .nil)) (.node (oa12 P) (.node (oa20 P) .nil .nil) (.node (oa28 P) .nil .nil))) (.node (boot_o_6 P) (.node (boot_o_10 P) (.node (oa18 P) .nil .nil) (.node (oa26 P) .nil .nil)) (.node (ob14 P) (.node (oa22 P) .nil .nil) (.node (oa30 P) .nil .nil)))))
noncomputable abbrev Sa (w : World) (os : OsState) : SharedT := ⟨Ta w.params, 33, {}, ⟨[]⟩, ⟨0, 0, 0, 0⟩, 256, os⟩
noncomputable def heapB (P : Params) : Heap := ⟨⟨[boot_o_0 P, boot_o_1 P, boot_o_2 P, boot_o_3 P, boot_o_4 P, boot_o_5 P, boot_o_6 P, boot_o_7 P, boot_o_8 P, boot_o_9 P, boot_o_10 P, ob11 P, ob12 P, ob13 P, ob14 P]⟩, {}⟩
noncomputable abbrev sB (w : World) (os : OsState) : Shared := ⟨heapB w.params, ⟨[]⟩, ⟨0, 0, 0, 0⟩, 187, os⟩
noncomputable abbrev s0 (w : World) (os : OsState) : Shared := ⟨boot_heap w.params, ⟨[]⟩, boot_drawn, boot_toks, os⟩
noncomputable def stsA : List Stmt := bE.take 3
noncomputable def stsD : List Stmt := [stN 3]
noncomputable def stsM : List Stmt := (bE.drop 4).take 8
noncomputable def stsE : List Stmt := bE.drop 12
theorem pre (w : World) (os : OsState) : topGo treeTable pw w 11 ann 12 (s0 w os) (topStub pw) = some (sB w os, ⟨denote treeTable cE, cE, ⟨0, 0, 0, 0⟩, fB⟩) := by
  rw [PySem.W.Fast.te15667345088766844465, PySem.W.Fast.te14364793385576792824, PySem.W.Fast.te11892475500146522536]
  kernel_rfl
theorem block (w : World) (os : OsState) : segRun treeTable pw w 11 ann 1 1 (sB w os) (blockOf bE env cE ⟨0, 0, 0, 0⟩ fB) = some (.next, (Sb w os).abs, cE, ⟨0, 0, 0, 0⟩) := by
  kernel_rfl
theorem pcA (w : World) : ∀ os : OsState, segRunT treeTable pw w 11 ann 1 1037 (Sb w os) (piecesOf stsA env cE ⟨0, 0, 0, 0⟩ fB) = some (.next, Sa w os, cE, ⟨3, 0, 4, 30⟩) := by
  rw [PySem.W.Fast.te10110043849684766642, PySem.W.Fast.te14364793385576792824]
  refine byRow2 "special-get-raises" (P := fun w => ∀ os : OsState, PySem.W.Fast.tw10110043849684766642 PySem.W.Fast.tw14364793385576792824 pw w 11 ann 1 1037 (Sb w os) (piecesOf stsA env cE ⟨0, 0, 0, 0⟩ fB) = some (.next, Sa w os, cE, ⟨3, 0, 4, 30⟩)) ?_ ?_ w
  · intro w os
    kernel_rfl
  · intro w os
    kernel_rfl

end
end Mine
namespace Mine
open PySem PySem.W PySem.Calls PyProof.Rows

/-- m, run from s at place q in the top's own body, ends in n steps as the value a, in s' at q'. -/
noncomputable def G (w : World) (n : Nat) {α : Type} (m : Sem α) (s : SharedT) (q : Pos) (a : α) (s' : SharedT) (q' : Pos) : Prop :=
  ∀ (K : α → Sem Fin) (H : Value → Sem Fin) (gd : Bool → Bool) (lv : List Value → List Value),
    segGoT treeTable pw w 11 ann 1 n s ⟨m.wrap K H gd lv, cE, q, fB⟩ = some (s', ⟨K a, cE, q', fB⟩)

theorem go_go {w : World} : ∀ {n k : Nat} {s s₁ : SharedT} {t t₁ : Thread} {r : SharedT × Thread}, segGoT treeTable pw w 11 ann 1 n s t = some (s₁, t₁) →
    segGoT treeTable pw w 11 ann 1 k s₁ t₁ = some r → segGoT treeTable pw w 11 ann 1 (n + k) s t = some r
  | 0, k, s, s₁, t, t₁, r, h, h' => by
    obtain ⟨rfl, rfl⟩ : s = s₁ ∧ t = t₁ := by simpa [segGoT] using h
    rw [Nat.zero_add]; exact h'
  | n + 1, k, s, s₁, t, t₁, r, h, h' => by
    rw [show n + 1 + k = n + k + 1 by omega]
    unfold segGoT at h ⊢
    cases he : endAt 1 t with
    | some f => rw [he] at h; cases h
    | none =>
      rw [he] at h
      cases hk : stepOk 11 ann t with
      | false => rw [hk] at h; cases h
      | true =>
        rw [hk] at h
        cases hs : stepT (denote treeTable) pw w s t with
        | none => rw [hs] at h; cases h
        | some r₂ => obtain ⟨s₂, t₂⟩ := r₂; rw [hs] at h; exact go_go h h'

section
variable {w : World} {α β : Type} {n k : Nat} {s s₁ s₂ : SharedT} {q q₁ q₂ : Pos}
theorem G.pure (a : α) : G w 0 (Sem.pure a) s q a s q := fun _ _ _ _ => rfl
theorem G.pure' (a : α) : G w 0 (Pure.pure a : Sem α) s q a s q := fun _ _ _ _ => rfl
theorem G.bind {m : Sem α} {f : α → Sem β} {a : α} {b : β} (h : G w n m s q a s₁ q₁) (h' : G w k (f a) s₁ q₁ b s₂ q₂) : G w (n + k) (m >>= f) s q b s₂ q₂ := fun K H gd lv => by
  rw [Sem.bind_eq_wrap', Sem.wrap_wrap]
  exact go_go (h _ _ _ _) (h' K H gd lv)
theorem G.eq {m m' : Sem α} {a : α} (e : m = m') (h : G w n m' s q a s₁ q₁) : G w n m s q a s₁ q₁ := e ▸ h
theorem G.keep {m : Sem α} {a : α} (vs : List Value) (h : G w n m s q a s₁ q₁) : G w n (m.keep vs) s q a s₁ q₁ := fun K H gd lv => by
  rw [Sem.keep_eq_wrap, Sem.wrap_wrap]
  exact h _ _ _ _
theorem G.holding {m : Sem α} {a : α} (vs : List Value) (h : G w n m s q a s₁ q₁) : G w n (holding vs m) s q a s₁ q₁ := by
  unfold PySem.holding
  split
  · exact h
  · exact h.keep _
theorem G.onRaise {m : Sem α} {a : α} {f : Value → Sem Unit} (h : G w n m s q a s₁ q₁) : G w n (m.onRaise f) s q a s₁ q₁ := fun K H gd lv => by
  rw [Sem.onRaise_eq_wrap, Sem.wrap_wrap]
  exact h _ _ _ _
theorem G.tryCatch {m : Sem α} {a : α} {f : Value → Sem α} (h : G w n m s q a s₁ q₁) : G w n (m.tryCatch f) s q a s₁ q₁ := fun K H gd lv => by
  rw [Sem.tryCatch_eq_wrap, Sem.wrap_wrap]
  exact h _ _ _ _
theorem G.standAt (p : Pos) : G w 1 (standAt p) s q () s p := fun _ _ _ _ => rfl
theorem G.rule (x : String) : G w 1 (rule x) s q () s q := fun _ _ _ _ => rfl
end

noncomputable abbrev sT (T : BT) (n k : Nat) (os : OsState) : SharedT := ⟨T, n, {}, ⟨[]⟩, ⟨0, 0, 0, 0⟩, k, os⟩
section
variable {w : World} {T : BT} {n k : Nat} {os : OsState} {q : Pos}
theorem G.mkInt (i : Int) : G w 1 (mkInt i) (sT T n k os) q (.int i k) (sT T n (k + 1) os) q := fun _ _ _ _ => rfl
theorem G.mkText (x : Str) : G w 1 (mkText x) (sT T n k os) q (.str x k) (sT T n (k + 1) os) q := fun _ _ _ _ => rfl
theorem G.loadPart {a : Addr} {part : Option Value} {o : Obj} (lt : Nat.blt a n = true) (g : T.get a = some o) (al : alive o = some o) : G w 1 (loadPart a part) (sT T n k os) q o (sT T n k os) q := fun K H gd lv => by
  show (match stepT (denote treeTable) pw w (sT T n k os) ⟨.load a part fun x => K x, cE, q, fB⟩ with | some (s', t') => segGoT treeTable pw w 11 ann 1 0 s' t' | none => none) = _
  simp only [stepT, lt, g, al]
  rfl
theorem G.load {a : Addr} {o : Obj} (lt : Nat.blt a n = true) (g : T.get a = some o) (al : alive o = some o) : G w 1 (load a) (sT T n k os) q o (sT T n k os) q := G.loadPart lt g al
theorem G.updatePart {a : Addr} {part : Option Value} {f : Obj → Obj} {o : Obj} (lt : Nat.blt a n = true) (g : T.get a = some o) (al : alive o = some o) (hi : Nat.ble 11 a = true) :
    G w 1 (updatePart a part f) (sT T n k os) q () (sT (T.set a f) n k os) q := fun K H gd lv => by
  have e : stepOk 11 ann ⟨.update a part f fun x => K x, cE, q, fB⟩ = true := by
    show (true && (Nat.ble 11 a || a == mainNs || a == cStatics || ann == some (.ref a))) = true
    rw [hi]; rfl
  show (match stepOk 11 ann ⟨.update a part f fun x => K x, cE, q, fB⟩ with | false => none | true => match stepT (denote treeTable) pw w (sT T n k os) ⟨.update a part f fun x => K x, cE, q, fB⟩ with | some (s', t') => segGoT treeTable pw w 11 ann 1 0 s' t' | none => none) = _
  rw [e]
  simp only [stepT, lt, g, al]
  rfl
theorem G.alloc {o : Obj} (e : ((T.ins n o).get n).isSome = true) : G w 1 (alloc o) (sT T n k os) q n (sT (T.ins n o) (n + 1) k os) q := fun K H gd lv => by
  show (match stepT (denote treeTable) pw w (sT T n k os) ⟨.alloc o fun x => K x, cE, q, fB⟩ with | some (s', t') => segGoT treeTable pw w 11 ann 1 0 s' t' | none => none) = _
  simp only [stepT, e]
  rfl
end
end Mine
namespace Mine
open PySem PySem.W PySem.Calls PyProof.Rows
#check @PySem.pyHashByItsType.reduced
theorem hash_run (w : World) : ∀ (T : BT) (n k : Nat) (os : OsState) (q : Pos) (i : Int) (t : Tok) (K : Int → Sem Fin) (H : Value → Sem Fin) (gd : Bool → Bool) (lv : List Value → List Value),
    segGoT treeTable pw w 11 ann 1 5 (sT T n k os) ⟨(pyHash (.int i t)).wrap K H gd lv, cE, q, fB⟩ = some (sT T n (k + 1) os, ⟨(pyHashByItsType.reduced (rawHash i)).wrap K H gd lv, cE, q, fB⟩) := by
  rw [PySem.W.Fast.te10295753902157049106, PySem.W.Fast.te14364793385576792824, PySem.W.Fast.te10540108854288196387, PySem.W.Fast.te199310478702765468]
  refine byRow2 "special-get-raises" (P := fun w => ∀ (T : BT) (n k : Nat) (os : OsState) (q : Pos) (i : Int) (t : Tok) (K : Int → Sem Fin) (H : Value → Sem Fin) (gd : Bool → Bool) (lv : List Value → List Value),
    PySem.W.Fast.tw10295753902157049106 PySem.W.Fast.tw14364793385576792824 pw w 11 ann 1 5 (sT T n k os) ⟨(PySem.W.Fast.tw10540108854288196387 (.int i t)).wrap K H gd lv, cE, q, fB⟩ = some (sT T n (k + 1) os, ⟨(PySem.W.Fast.tw199310478702765468 (rawHash i)).wrap K H gd lv, cE, q, fB⟩)) ?_ ?_ w
  · intro w T n k os q i t K H gd lv
    kernel_rfl
  · intro w T n k os q i t K H gd lv
    kernel_rfl
end Mine
namespace Mine
open PySem PySem.W PySem.Calls PyProof.Rows

theorem reduced_eq (i : Int) : pyHashByItsType.reduced (rawHash i) = pure (hashInt i) := by
  have hr := rawHash_range i
  unfold pyHashByItsType.reduced
  rw [if_pos (by rw [decide_eq_true (by simpa using hr.1), decide_eq_true (by simpa using hr.2)]; rfl)]
  rfl
theorem hashInt_small {i : Int} (h0 : 0 ≤ i) (h1 : i < 2 ^ 60) : hashInt i = i := by
  have e : rawHash i = i := by
    unfold rawHash
    have h2 : ((i.natAbs : Int) % ((2 ^ 61 - 1 : Nat) : Int)) = i := by
      have : (i.natAbs : Int) = i := by omega
      rw [this, Int.emod_eq_of_lt h0 (by omega)]
    rw [h2]
    have h3 : ¬ (i < 0) := by omega
    have h4 : (i == -1) = false := by
      rw [beq_eq_false_iff_ne]; omega
    simp only [h3, if_false, h4, Bool.false_eq_true]
  unfold hashInt
  rw [e]
  have h4 : (i == -1) = false := by
    rw [beq_eq_false_iff_ne]; omega
  rw [h4]; rfl
section
variable {w : World} {T : BT} {n k : Nat} {os : OsState} {q : Pos}
theorem G.hash (i : Int) (t : Tok) : G w 5 (pyHash (.int i t)) (sT T n k os) q (hashInt i) (sT T n (k + 1) os) q := fun K H gd lv => by
  have := hash_run w T n k os q i t K H gd lv
  rw [reduced_eq] at this
  exact this
end

theorem put_put (a b : Obj) : ∀ (T : BT) (d : Nat), (T.set d fun _ => a).set d (fun _ => b) = T.set d fun _ => b
  | .nil, _ => rfl
  | .node v l r, d => by
    rw [BT.set_node, BT.set_node]
    by_cases h : d = 0
    · subst h; rfl
    · by_cases p : d % 2 = 1
      · simp only [if_neg h, if_pos p, BT.set_node, put_put a b l]
      · simp only [if_neg h, if_neg p, BT.set_node, put_put a b r]
theorem set_put {f : Obj → Obj} {o : Obj} : ∀ (T : BT) (d : Nat), T.get d = some o → T.set d f = T.set d fun _ => f o
  | .nil, _, h => by cases h
  | .node v l r, d, h => by
    rw [BT.get_node] at h
    rw [BT.set_node, BT.set_node]
    by_cases hd : d = 0
    · rw [if_pos hd] at h ⊢; cases h; rw [if_pos hd]
    · rw [if_neg hd] at h ⊢
      rw [if_neg hd]
      by_cases p : d % 2 = 1
      · rw [if_pos p] at h ⊢; rw [if_pos p, set_put l _ h]
      · rw [if_neg p] at h ⊢; rw [if_neg p, set_put r _ h]
theorem ins_put (a b : Obj) : ∀ (T : BT) (n : Nat), ((T.ins n a).get n).isSome = true → (T.ins n a).set n (fun _ => b) = T.ins n b
  | .nil, n, h => by
    have e : ∀ x, (BT.nil.ins n x) = .node x .nil .nil := fun _ => rfl
    rw [e, BT.get_node] at h
    have hn : n = 0 := by
      by_cases q : n = 0
      · exact q
      · exfalso; revert h; by_cases p : n % 2 = 1 <;> simp [q, p, BT.get]
    subst hn
    rw [e, e]; rfl
  | .node v l r, n, h => by
    rw [BT.ins_node] at h ⊢
    rw [BT.ins_node]
    by_cases hn : n = 0
    · subst hn; rfl
    · rw [if_neg hn] at h ⊢
      rw [if_neg hn]
      by_cases p : n % 2 = 1
      · rw [if_pos p] at h ⊢
        rw [if_pos p]
        rw [BT.get_node, if_neg hn, if_pos p] at h
        rw [BT.set_node, if_neg hn, if_pos p, ins_put a b l _ h]
      · rw [if_neg p] at h ⊢
        rw [if_neg p]
        rw [BT.get_node, if_neg hn, if_neg p] at h
        rw [BT.set_node, if_neg hn, if_neg p, ins_put a b r _ h]

noncomputable def objD (es : List DictEntry) (m : Nat) : Obj := { cls := .type "dict", data := .dict es.toArray m }
noncomputable def put (T : BT) (d : Nat) (o : Obj) : BT := T.set d fun _ => o
theorem put_get {T : BT} {d : Nat} {o : Obj} (h : (T.get d).isSome = true) : (put T d o).get d = some o := by
  unfold put
  rw [BT.get_set, if_pos rfl]
  obtain ⟨x, hx⟩ := Option.isSome_iff_exists.mp h
  rw [hx]; rfl
theorem put_get_ne {T : BT} {d a : Nat} {o : Obj} (h : a ≠ d) : (put T d o).get a = T.get a := by
  unfold put
  rw [BT.get_set, if_neg h]
noncomputable def ent (t : Nat) (p : Int × Str) : DictEntry := ⟨p.1, .int p.1 t, .str p.2 (t + 1)⟩

section
variable {w : World} {T : BT} {n k m : Nat} {d : Nat} {os : OsState} {q : Pos} {es : List DictEntry}
theorem alive_objD : alive (objD es m) = some (objD es m) := rfl
theorem G.dictEntries {part : Option Value} (lt : Nat.blt d n = true) (g : T.get d = some (objD es m)) : G w 1 (dictEntries d part) (sT T n k os) q es.toArray (sT T n k os) q :=
  G.bind (k := 0) (G.loadPart lt g alive_objD) (G.pure _)
theorem G.dictEpoch {part : Option Value} (lt : Nat.blt d n = true) (g : T.get d = some (objD es m)) : G w 1 (dictEpoch d part) (sT T n k os) q m (sT T n k os) q :=
  G.bind (k := 0) (G.loadPart lt g alive_objD) (G.pure _)
theorem places_none {es : Array DictEntry} {h : Int} (hn : ∀ e ∈ es, e.hash ≠ h) : placesWithHash es.size (fun i => es[i]?.map (·.hash)) h = [] := by
  unfold placesWithHash
  rw [List.filter_eq_nil_iff]
  intro i hi
  have hi' : i < es.size := List.mem_range.mp hi
  have := hn es[i] (Array.getElem_mem hi')
  show ¬ ((es[i]?.map (·.hash)) == some h) = true
  rw [Array.getElem?_eq_getElem hi']
  simpa using this
theorem G.dictFind {i : Int} {t : Tok} {h : Int} (lt : Nat.blt d n = true) (g : T.get d = some (objD es m)) (hn : ∀ e ∈ es, e.hash ≠ h) : G w 1 (dictFind d (.int i t) h) (sT T n k os) q none (sT T n k os) q := by
  unfold PySem.dictFind
  refine G.holding _ (G.bind (k := 0) (G.dictEntries lt g) ?_)
  dsimp only
  rw [places_none (fun e he => hn e (by simpa using he))]
  exact G.pure _
theorem G.updateKeys {part : Option Value} {e : DictEntry} (lt : Nat.blt d n = true) (hi : Nat.ble 11 d = true) (g : T.get d = some (objD es m)) (hsz : es.length + 1 ≤ 2 ^ 24) :
    G w 3 (updateDictKeys d (·.push e) part) (sT T n k os) q () (sT (put T d (objD (es ++ [e]) (m + 1))) n k os) q := by
  unfold PySem.updateDictKeys
  refine G.bind (k := 2) (G.loadPart lt g alive_objD) ?_
  have e1 : T.set d (Obj.mapDictKeys (·.push e)) = put T d (objD (es ++ [e]) (m + 1)) := by
    rw [set_put T d g]
    unfold put objD
    have : Obj.mapDictKeys (·.push e) { cls := Value.type "dict", data := Data.dict es.toArray m } = { cls := Value.type "dict", data := Data.dict (es ++ [e]).toArray (m + 1) } := by
      show ({ cls := Value.type "dict", data := Data.dict (es.toArray.push e) (m + 1) } : Obj) = _
      simp
    rw [this]
  refine G.bind (n := 1) (k := 1) (G.updatePart lt g alive_objD hi) ?_
  rw [e1]
  unfold lookBehind
  refine G.bind (n := 1) (k := 0) (G.loadPart lt (put_get (by rw [g]; rfl)) alive_objD) ?_
  have e2 : (objD (es ++ [e]) (m + 1)).data.pastItsLine = none := by
    show (if (es ++ [e]).toArray.size > sizeLine + 1 then some "dict:memory" else none) = none
    rw [if_neg]
    simp only [List.size_toArray, List.length_append, List.length_cons, List.length_nil, sizeLine]
    omega
  rw [e2]
  exact G.pure _
theorem G.dictSet {i : Int} {t : Tok} {v : Value} (h0 : 0 ≤ i) (h1 : i < 2 ^ 60) (lt : Nat.blt d n = true) (hi : Nat.ble 11 d = true) (g : T.get d = some (objD es m)) (hsz : es.length + 1 ≤ 2 ^ 24) (hn : ∀ e ∈ es, e.hash ≠ i) :
    G w 10 (dictSet d (.int i t) v) (sT T n k os) q () (sT (put T d (objD (es ++ [⟨i, .int i t, v⟩]) (m + 1))) n (k + 1) os) q := by
  unfold PySem.dictSet
  refine G.holding _ (G.bind (n := 5) (k := 5) (G.hash i t) ?_)
  rw [hashInt_small h0 h1]
  unfold dictSetHashed
  refine G.holding _ (G.bind (n := 1) (k := 4) (G.dictFind lt g hn) ?_)
  exact G.bind (n := 1) (k := 3) (G.rule _) (G.updateKeys lt hi g hsz)
theorem G.dictPut {i : Int} {t : Tok} {v : Value} {h : Int} (lt : Nat.blt d n = true) (hi : Nat.ble 11 d = true) (g : T.get d = some (objD es m)) (hsz : es.length + 1 ≤ 2 ^ 24) (hn : ∀ e ∈ es, e.hash ≠ h) :
    G w 4 (dictPut d h (.int i t) v) (sT T n k os) q () (sT (put T d (objD (es ++ [⟨h, .int i t, v⟩]) (m + 1))) n k os) q := by
  unfold PySem.dictPut
  exact G.bind (n := 1) (k := 3) (G.dictFind lt g hn) (G.updateKeys lt hi g hsz)
end
end Mine
namespace Mine
open PySem PySem.W PySem.Calls PyProof.Rows

noncomputable def entsFrom (t : Nat) : List (Int × Str) → List DictEntry
  | [] => []
  | p :: r => ent t p :: entsFrom (t + 3) r
theorem entsFrom_append : ∀ (t : Nat) (A B : List (Int × Str)), entsFrom t (A ++ B) = entsFrom t A ++ entsFrom (t + 3 * A.length) B
  | t, [], B => rfl
  | t, p :: A, B => by
    show ent t p :: entsFrom (t + 3) (A ++ B) = _
    rw [entsFrom_append (t + 3) A B, List.length_cons, show t + 3 + 3 * A.length = t + 3 * (A.length + 1) by omega]
    rfl
theorem entsFrom_hash : ∀ (t : Nat) (A : List (Int × Str)), (entsFrom t A).map (·.hash) = A.map (·.1)
  | _, [] => rfl
  | t, p :: A => congrArg (p.1 :: ·) (entsFrom_hash (t + 3) A)
theorem entsFrom_length : ∀ (t : Nat) (A : List (Int × Str)), (entsFrom t A).length = A.length
  | _, [] => rfl
  | t, p :: A => congrArg (· + 1) (entsFrom_length (t + 3) A)

structure Good (es : List DictEntry) (L : List (Int × Str)) : Prop where
  lo : ∀ p ∈ L, 0 ≤ p.1
  hi : ∀ p ∈ L, p.1 < 2 ^ 60
  nd : (es.map (·.hash) ++ L.map (·.1)).Nodup
  sz : es.length + L.length ≤ 2 ^ 20
theorem Good.fresh {es : List DictEntry} {p : Int × Str} {L : List (Int × Str)} (g : Good es (p :: L)) : ∀ e ∈ es, e.hash ≠ p.1 := fun e he q => by
  have := (List.nodup_append.mp g.nd).2.2 e.hash (List.mem_map_of_mem he) p.1 (by simp)
  exact this q
theorem Good.next {es : List DictEntry} {p : Int × Str} {L : List (Int × Str)} {e : DictEntry} (g : Good es (p :: L)) (he : e.hash = p.1) : Good (es ++ [e]) L :=
  ⟨fun x hx => g.lo x (.tail _ hx), fun x hx => g.hi x (.tail _ hx), by
    have := g.nd
    simpa [he] using this, by
    have := g.sz
    simp only [List.length_append, List.length_cons, List.length_nil] at this ⊢
    omega⟩

noncomputable def pairS (pos : Pos) (p : Int × Str) : Sem Value × Sem Value := (mkInt p.1, do let x ← mkText p.2; standAt pos; pure x)

section
variable {w : World} {n d : Nat} {os : OsState} {pos : Pos}
theorem put_put' (T : BT) (a b : Obj) : put (put T d a) d b = put T d b := put_put a b T d
theorem long_loop (lt : Nat.blt d n = true) (hi : Nat.ble 11 d = true) : ∀ (L : List (Int × Str)) (T : BT) (es : List DictEntry) (m k : Nat), (T.get d).isSome = true → Good es L →
    G w (13 * L.length) (forIn (L.map (pairS pos)) PUnit.unit fun (x : Sem Value × Sem Value) (_ : PUnit) => (do
        let kv ← x.1
        let vv ← holding [kv] x.2
        holding [kv, vv] (dictSet d kv vv)
        pure (ForInStep.yield PUnit.unit) : Sem (ForInStep PUnit)))
      (sT (put T d (objD es m)) n k os) pos PUnit.unit (sT (put T d (objD (es ++ entsFrom k L) (m + L.length))) n (k + 3 * L.length) os) pos
  | [], T, es, m, k, hT, g => by
    rw [List.map_nil, List.forIn_nil]
    simpa [entsFrom] using G.pure' (w := w) (s := sT (put T d (objD es m)) n k os) (q := pos) PUnit.unit
  | p :: L, T, es, m, k, hT, g => by
    rw [List.map_cons, List.forIn_cons]
    have ih := long_loop lt hi L T (es ++ [ent k p]) (m + 1) (k + 3) hT (g.next rfl)
    have e1 : es ++ [ent k p] ++ entsFrom (k + 3) L = es ++ entsFrom k (p :: L) := by simp [entsFrom]
    have e2 : m + 1 + L.length = m + (p :: L).length := by rw [List.length_cons]; omega
    have e3 : k + 3 + 3 * L.length = k + 3 * (p :: L).length := by rw [List.length_cons]; omega
    rw [e1, e2, e3] at ih
    rw [show 13 * (p :: L).length = 13 + 13 * L.length by rw [List.length_cons]; omega]
    refine G.bind (n := 13) (a := ForInStep.yield PUnit.unit) ?_ ih
    refine G.bind (n := 1) (k := 12) (G.mkInt p.1) ?_
    refine G.bind (n := 2) (k := 10) (G.holding _ (G.bind (n := 1) (k := 1) (G.mkText p.2) (G.bind (n := 1) (k := 0) (G.standAt pos) (G.pure _)))) ?_
    have hs := G.dictSet (w := w) (T := put T d (objD es m)) (n := n) (k := k + 2) (m := m) (d := d) (os := os) (q := pos) (es := es) (i := p.1) (t := k) (v := .str p.2 (k + 1)) (g.lo p (.head _)) (g.hi p (.head _)) lt hi (put_get hT)
      (by have := g.sz; rw [List.length_cons] at this; omega) g.fresh
    rw [put_put'] at hs
    exact G.bind (n := 10) (k := 0) (G.holding _ hs) (G.pure _)
theorem G.subLong (hi : Nat.ble 11 n = true) {T : BT} {k : Nat} {L : List (Int × Str)} (e : ((T.ins n (objD [] 0)).get n).isSome = true) (hL : 15 < L.length) (g : Good [] L) :
    G w (2 + 13 * L.length) (subDict (L.map (pairS pos))) (sT T n k os) pos n (sT (T.ins n (objD (entsFrom k L) L.length)) (n + 1) (k + 3 * L.length) os) pos := by
  unfold subDict
  have lt : Nat.blt n (n + 1) = true := Nat.ble_eq_true_of_le (Nat.le_refl _)
  have hl := long_loop (w := w) (os := os) (pos := pos) lt hi L (T.ins n (objD [] 0)) [] 0 k e g
  have e0 : put (T.ins n (objD [] 0)) n (objD [] 0) = T.ins n (objD [] 0) := ins_put _ _ T n e
  have e1 : put (T.ins n (objD [] 0)) n (objD ([] ++ entsFrom k L) (0 + L.length)) = T.ins n (objD (entsFrom k L) L.length) := by
    rw [List.nil_append, Nat.zero_add]; exact ins_put _ _ T n e
  rw [e0, e1] at hl
  rw [show 2 + 13 * L.length = 1 + (1 + 13 * L.length) by omega]
  refine G.bind (n := 1) (G.alloc e) ?_
  refine G.bind (n := 1 + 13 * L.length) (k := 0) (a := ()) (G.holding _ ?_) (G.pure _)
  rw [if_neg (by rw [List.length_map]; omega)]
  exact G.bind (n := 1) (G.rule _) (G.bind (n := 13 * L.length) (k := 0) (a := PUnit.unit) hl (G.pure' ()))
end
end Mine
namespace Mine
open PySem PySem.W PySem.Calls PyProof.Rows

theorem sub_dict : isSubtype (.type "dict") (.type "dict") = pure true := by rw [isSubtype_type]; kernel_rfl
theorem look_dict_iter : typeLookup (.type "dict") "__iter__" = pure (some (.builtin "dict.__iter__")) := by rw [typeLookup_type, builtinLookup_eq_fast]; kernel_rfl

section
variable {w : World} {n d a : Nat} {os : OsState} {pos : Pos} {T : BT} {k m m' : Nat} {es es' : List DictEntry}
theorem G.typeOf_dict (lt : Nat.blt a n = true) (g : T.get a = some (objD es m)) : G w 1 (typeOf (.ref a)) (sT T n k os) pos (.type "dict") (sT T n k os) pos :=
  G.bind (k := 0) (G.loadPart lt g alive_objD) (G.pure _)

theorem merge_loop (ltd : Nat.blt d n = true) (lta : Nat.blt a n = true) (hi : Nat.ble 11 d = true) (hne : a ≠ d) (ks : List DictEntry) (hks : ∀ e ∈ ks, ∃ i t v, e.key = .int i t ∧ e.val = v) :
    ∀ (j : Nat) (done todo : List DictEntry) (m : Nat) (T : BT) , ks = done ++ todo → done.length = j → (T.get d).isSome = true → T.get a = some (objD ks m') →
      (∀ e ∈ es ++ done, ∀ e' ∈ todo, e.hash ≠ e'.hash) → (todo.map (·.hash)).Nodup → es.length + ks.length ≤ 2 ^ 20 →
    G w (6 * todo.length) (forIn (List.range' j todo.length) PUnit.unit fun (i : Nat) (_ : PUnit) => (do
        let some e := (← dictEntries a)[i]? | do
          unsupported "dict.changed-during-merge"
          pure (ForInStep.yield PUnit.unit)
        holding [e.key, e.val] (do
          if false then
            if (← dictFind d e.key e.hash).isSome then
              rule "dict.merge.duplicate-key"
              raiseNew (← newExc (.type "KeyError") [e.key])
          dictPut d e.hash e.key e.val)
        if (← dictEpoch a) != m' then unsupported "dict.changed-during-merge"
        pure (ForInStep.yield PUnit.unit) : Sem (ForInStep PUnit)))
      (sT (put T d (objD (es ++ done) m)) n k os) pos PUnit.unit (sT (put T d (objD (es ++ ks) (m + todo.length))) n k os) pos
  | j, done, [], m, T, hk, hj, hT, ha, hf, hnd, hsz => by
    subst hk
    simpa using G.pure' (w := w) (s := sT (put T d (objD (es ++ done) m)) n k os) (q := pos) PUnit.unit
  | j, done, e :: todo, m, T, hk, hj, hT, ha, hf, hnd, hsz => by
    have ih := merge_loop ltd lta hi hne ks hks (j + 1) (done ++ [e]) todo (m + 1) T (by simpa using hk) (by simp [hj]) hT ha
      (by
        intro x hx y hy
        rw [← List.append_assoc, List.mem_append] at hx
        rcases hx with hx | hx
        · exact hf x hx y (.tail _ hy)
        · rcases List.mem_singleton.mp hx with rfl
          rw [List.map_cons, List.nodup_cons] at hnd
          exact fun q => hnd.1 (q ▸ List.mem_map_of_mem hy))
      (by rw [List.map_cons, List.nodup_cons] at hnd; exact hnd.2) hsz
    rw [show m + 1 + todo.length = m + (e :: todo).length by rw [List.length_cons]; omega] at ih
    rw [List.length_cons, List.range'_succ, List.forIn_cons, show 6 * (todo.length + 1) = 6 + 6 * todo.length by omega]
    refine G.bind (n := 6) (a := ForInStep.yield PUnit.unit) ?_ ih
    have ga : (put T d (objD (es ++ done) m)).get a = some (objD ks m') := by rw [put_get_ne hne]; exact ha
    refine G.bind (n := 1) (k := 5) (G.dictEntries lta ga) ?_
    have hat : ks.toArray[j]? = some e := by
      subst hk
      rw [List.getElem?_toArray, List.getElem?_append_right (by omega), hj, Nat.sub_self]; rfl
    rw [hat]
    dsimp only
    obtain ⟨i, t, v, e1, e2⟩ := hks e (by subst hk; simp)
    have hp := G.dictPut (w := w) (T := put T d (objD (es ++ done) m)) (n := n) (k := k) (m := m) (d := d) (os := os) (q := pos) (es := es ++ done) (i := i) (t := t) (v := v) (h := e.hash) ltd hi (put_get hT)
      (by have : ks.length = done.length + (todo.length + 1) := by subst hk; simp
          rw [List.length_append]; omega) (fun x hx => hf x hx e (.head _))
    rw [put_put'] at hp
    have e3 : (⟨e.hash, .int i t, v⟩ : DictEntry) = e := by cases e; simp_all
    rw [e3, ← e1] at hp
    subst e2
    rw [List.append_assoc] at hp
    refine G.bind (n := 4) (k := 1) (G.holding _ hp) ?_
    have gb : (put T d (objD (es ++ (done ++ [e])) (m + 1))).get a = some (objD ks m') := by rw [put_get_ne hne]; exact ha
    refine G.bind (n := 1) (k := 0) (G.dictEpoch lta gb) ?_
    rw [if_neg (by simp)]
    exact G.pure' _
theorem G.merge (ltd : Nat.blt d n = true) (lta : Nat.blt a n = true) (hi : Nat.ble 11 d = true) (hne : a ≠ d) (hsys : (a == sysModules) = false) {ks : List DictEntry} (hks : ∀ e ∈ ks, ∃ i t v, e.key = .int i t ∧ e.val = v)
    (hd : (T.get d).isSome = true) (ha : T.get a = some (objD ks m')) (h0 : es ≠ []) (hf : ∀ e ∈ es, ∀ e' ∈ ks, e.hash ≠ e'.hash) (hnd : (ks.map (·.hash)).Nodup) (hsz : es.length + ks.length ≤ 2 ^ 20) :
    G w (5 + 6 * ks.length) (mergeMapping d (.ref a) false) (sT (put T d (objD es m)) n k os) pos () (sT (put T d (objD (es ++ ks) (m + ks.length))) n k os) pos := by
  have ga : (put T d (objD es m)).get a = some (objD ks m') := by rw [put_get_ne hne]; exact ha
  unfold mergeMapping
  rw [show 5 + 6 * ks.length = 1 + (1 + (0 + (1 + (1 + (1 + (6 * ks.length + 0)))))) by omega]
  refine G.bind (n := 1) (a := true) (s₁ := sT (put T d (objD es m)) n k os) (q₁ := pos) ?_ ?_
  · unfold isInstance
    refine G.bind (n := 1) (k := 0) (G.typeOf_dict lta ga) ?_
    rw [sub_dict]; exact G.pure' _
  dsimp only
  rw [if_pos rfl]
  refine G.bind (n := 1) (a := some (.builtin "dict.__iter__")) (s₁ := sT (put T d (objD es m)) n k os) (q₁ := pos) ?_ ?_
  · unfold specialOf
    refine G.bind (n := 1) (k := 0) (G.typeOf_dict lta ga) ?_
    rw [look_dict_iter]; exact G.pure' _
  refine G.bind (n := 0) (G.pure' _) ?_
  rw [show (some (Value.builtin "dict.__iter__") == some (Value.builtin "dict.__iter__")) = true by simp]
  dsimp only
  rw [hsys]
  simp only [Bool.false_eq_true, if_false]
  refine G.bind (n := 1) (G.dictEntries ltd (put_get hd)) ?_
  rw [if_neg (by simpa using h0)]
  refine G.bind (n := 1) (G.dictEntries lta ga) ?_
  refine G.bind (n := 1) (G.dictEpoch lta ga) ?_
  have hl := merge_loop (w := w) (n := n) (d := d) (a := a) (os := os) (pos := pos) (k := k) (m' := m') (es := es) ltd lta hi hne ks hks 0 [] ks m T rfl rfl hd ha (by simpa using hf) hnd hsz
  rw [List.append_nil, ← List.range_eq_range', ] at hl
  refine G.bind (n := 6 * ks.length) (k := 0) (a := PUnit.unit) ?_ (G.pure' _)
  exact hl
end
end Mine
namespace Mine
open PySem PySem.W PySem.Calls PyProof.Rows

noncomputable def entsLast (t : Nat) : List (Int × Str) → List DictEntry
  | [] => []
  | p :: r => ent t p :: entsLast (t + 2) r
noncomputable def valsLast (t : Nat) : List (Int × Str) → List (Value × Value)
  | [] => []
  | p :: r => (.int p.1 t, .str p.2 (t + 1)) :: valsLast (t + 2) r
theorem entsLast_hash : ∀ (t : Nat) (A : List (Int × Str)), (entsLast t A).map (·.hash) = A.map (·.1)
  | _, [] => rfl
  | t, p :: A => congrArg (p.1 :: ·) (entsLast_hash (t + 2) A)
theorem entsLast_length : ∀ (t : Nat) (A : List (Int × Str)), (entsLast t A).length = A.length
  | _, [] => rfl
  | t, p :: A => congrArg (· + 1) (entsLast_length (t + 2) A)
theorem entsFrom_keys (t : Nat) (A : List (Int × Str)) : ∀ e ∈ entsFrom t A, ∃ i t' v, e.key = .int i t' ∧ e.val = v := by
  induction A generalizing t with
  | nil => intro e he; cases he
  | cons p A ih =>
    intro e he
    rcases List.mem_cons.mp he with rfl | he
    · exact ⟨p.1, t, _, rfl, rfl⟩
    · exact ih (t + 3) e he
theorem entsLast_keys (t : Nat) (A : List (Int × Str)) : ∀ e ∈ entsLast t A, ∃ i t' v, e.key = .int i t' ∧ e.val = v := by
  induction A generalizing t with
  | nil => intro e he; cases he
  | cons p A ih =>
    intro e he
    rcases List.mem_cons.mp he with rfl | he
    · exact ⟨p.1, t, _, rfl, rfl⟩
    · exact ih (t + 2) e he

section
variable {w : World} {n d : Nat} {os : OsState} {pos : Pos} {T : BT}
theorem G.evalPairs : ∀ (L : List (Int × Str)) (k : Nat), G w (3 * L.length) (evalPairs (L.map (pairS pos))) (sT T n k os) pos (valsLast k L) (sT T n (k + 2 * L.length) os) pos
  | [], k => G.pure' _
  | p :: L, k => by
    have ih := G.evalPairs L (k + 2)
    rw [show k + 2 + 2 * L.length = k + 2 * (p :: L).length by rw [List.length_cons]; omega] at ih
    rw [show 3 * (p :: L).length = 1 + (2 + (3 * L.length + 0)) by rw [List.length_cons]; omega, List.map_cons]
    show G w _ (PySem.evalPairs ((PySem.mkInt p.1, do let x ← PySem.mkText p.2; PySem.standAt pos; Pure.pure x) :: L.map (pairS pos))) _ _ _ _ _
    rw [PySem.evalPairs]
    refine G.bind (n := 1) (G.mkInt p.1) ?_
    refine G.bind (n := 2) (G.holding _ (G.bind (n := 1) (k := 1) (G.mkText p.2) (G.bind (n := 1) (k := 0) (G.standAt pos) (G.pure _)))) ?_
    exact G.bind (n := 3 * L.length) (k := 0) (G.holding _ ih) (G.pure' _)
theorem short_loop (lt : Nat.blt d n = true) (hi : Nat.ble 11 d = true) : ∀ (L : List (Int × Str)) (T : BT) (es : List DictEntry) (m k t : Nat), (T.get d).isSome = true → Good es L →
    G w (10 * L.length) (forIn (valsLast t L) PUnit.unit fun (x : Value × Value) (_ : PUnit) => (do dictSet d x.1 x.2; pure (ForInStep.yield PUnit.unit) : Sem (ForInStep PUnit)))
      (sT (put T d (objD es m)) n k os) pos PUnit.unit (sT (put T d (objD (es ++ entsLast t L) (m + L.length))) n (k + L.length) os) pos
  | [], T, es, m, k, t, hT, g => by
    simpa [entsLast, valsLast] using G.pure' (w := w) (s := sT (put T d (objD es m)) n k os) (q := pos) PUnit.unit
  | p :: L, T, es, m, k, t, hT, g => by
    have ih := short_loop lt hi L T (es ++ [ent t p]) (m + 1) (k + 1) (t + 2) hT (g.next rfl)
    have e1 : es ++ [ent t p] ++ entsLast (t + 2) L = es ++ entsLast t (p :: L) := by simp [entsLast]
    have e2 : m + 1 + L.length = m + (p :: L).length := by rw [List.length_cons]; omega
    have e3 : k + 1 + L.length = k + (p :: L).length := by rw [List.length_cons]; omega
    rw [e1, e2, e3] at ih
    rw [show 10 * (p :: L).length = 10 + 10 * L.length by rw [List.length_cons]; omega]
    show G w _ (forIn ((Value.int p.1 t, Value.str p.2 (t + 1)) :: valsLast (t + 2) L) _ _) _ _ _ _ _
    rw [List.forIn_cons]
    refine G.bind (n := 10) (a := ForInStep.yield PUnit.unit) ?_ ih
    have hs := G.dictSet (w := w) (T := put T d (objD es m)) (n := n) (k := k) (m := m) (d := d) (os := os) (q := pos) (es := es) (i := p.1) (t := t) (v := .str p.2 (t + 1)) (g.lo p (.head _)) (g.hi p (.head _)) lt hi (put_get hT)
      (by have := g.sz; rw [List.length_cons] at this; omega) g.fresh
    rw [put_put'] at hs
    exact G.bind (n := 10) (k := 0) hs (G.pure _)
theorem G.subShort (hi : Nat.ble 11 n = true) {k : Nat} {L : List (Int × Str)} (e : ((T.ins n (objD [] 0)).get n).isSome = true) (hL : L.length ≤ 15) (g : Good [] L) :
    G w (1 + 13 * L.length) (subDict (L.map (pairS pos))) (sT T n k os) pos n (sT (T.ins n (objD (entsLast k L) L.length)) (n + 1) (k + 3 * L.length) os) pos := by
  unfold subDict
  have lt : Nat.blt n (n + 1) = true := Nat.ble_eq_true_of_le (Nat.le_refl _)
  have hl := short_loop (w := w) (os := os) (pos := pos) lt hi L (T.ins n (objD [] 0)) [] 0 (k + 2 * L.length) k e g
  have e0 : put (T.ins n (objD [] 0)) n (objD [] 0) = T.ins n (objD [] 0) := ins_put _ _ T n e
  have e1 : put (T.ins n (objD [] 0)) n (objD ([] ++ entsLast k L) (0 + L.length)) = T.ins n (objD (entsLast k L) L.length) := by
    rw [List.nil_append, Nat.zero_add]; exact ins_put _ _ T n e
  rw [e0, e1, show k + 2 * L.length + L.length = k + 3 * L.length by omega] at hl
  rw [show 1 + 13 * L.length = 1 + (3 * L.length + (10 * L.length + 0)) by omega]
  refine G.bind (n := 1) (G.alloc e) ?_
  refine G.bind (n := 3 * L.length + (10 * L.length + 0)) (k := 0) (a := ()) (G.holding _ ?_) (G.pure _)
  rw [if_pos (by rw [List.length_map]; omega)]
  refine G.bind (n := 3 * L.length) (G.evalPairs L k) ?_
  exact G.holding _ (G.bind (n := 10 * L.length) (k := 0) (a := PUnit.unit) hl (G.pure' ()))
end
end Mine
namespace Mine
open PySem PySem.W PySem.Calls PyProof.Rows

noncomputable abbrev SP := Sem Value × Sem Value
noncomputable def flushF (run : List SP) (main : Option Addr) : Sem (Option Addr) := do
  if run.isEmpty then return main
  match main with
  | none => return some (← subDict run)
  | some d =>
    let sub ← holding [.ref d] (subDict run)
    (holding [.ref d, .ref sub] (mergeMapping d (.ref sub) false)).onRaise fun x => do let _ ← holding [.ref d, x] (runValue (.builtin "proto.let_go" {}))
    return some d
noncomputable abbrev Body := (Option (Sem Value) × Sem Value) → (Option Addr × List SP) → Sem (ForInStep (Option Addr × List SP))
structure IsBody (f : Body) : Prop where
  less : ∀ (p : SP) (main : Option Addr) (run : List SP), run.length + 1 ≠ 17 → f (some p.1, p.2) (main, run) = pure (.yield (main, run ++ [p]))
  full : ∀ (p : SP) (main : Option Addr) (run : List SP), run.length + 1 = 17 → f (some p.1, p.2) (main, run) = (do let main ← flushF (run ++ [p]) main; pure (.yield (main, [])))
noncomputable def itemsOf (l : List SP) : List (Option (Sem Value) × Sem Value) := l.map fun p => (some p.1, p.2)
theorem display_eq (l : List SP) : ∃ f : Body, IsBody f ∧ dictDisplay (itemsOf l) = (do
    let x ← forIn (itemsOf l) ((none : Option Addr), ([] : List SP)) f
    match ← flushF x.2 x.1 with
    | some d => pure (.ref d)
    | none => newDict) := by
  refine ⟨?_, ?_, ?_⟩
  rotate_left 2
  · unfold dictDisplay
    dsimp only
    rfl
  · constructor
    · intro p main run h
      dsimp only
      rw [if_neg (by simpa using h)]
    · intro p main run h
      dsimp only
      rw [if_pos (by simpa using h)]
      rfl
theorem gather {f : Body} (hf : IsBody f) (rest : List SP) : ∀ (c run : List SP) (main : Option Addr), run.length + c.length < 17 →
    forIn (itemsOf (c ++ rest)) (main, run) f = forIn (itemsOf rest) (main, run ++ c) f
  | [], run, main, _ => by simp
  | p :: c, run, main, h => by
    rw [List.length_cons] at h
    show forIn ((some p.1, p.2) :: itemsOf (c ++ rest)) (main, run) f = _
    rw [List.forIn_cons, hf.less p main run (by omega), pure_bind]
    have := gather hf rest c (run ++ [p]) main (by rw [List.length_append, List.length_cons, List.length_nil]; omega)
    simpa using this
theorem gather17 {f : Body} (hf : IsBody f) (c rest : List SP) (hc : c.length = 17) (main : Option Addr) :
    forIn (itemsOf (c ++ rest)) (main, []) f = (do let main ← flushF c main; forIn (itemsOf rest) (main, []) f) := by
  have hne : c ≠ [] := by rintro rfl; cases hc
  obtain ⟨c', p, rfl⟩ : ∃ c' p, c = c' ++ [p] := ⟨c.dropLast, c.getLast hne, (List.dropLast_concat_getLast hne).symm⟩
  rw [List.length_append, List.length_cons, List.length_nil] at hc
  rw [List.append_assoc, gather hf ([p] ++ rest) c' [] main (by simp; omega), List.nil_append]
  show forIn ((some p.1, p.2) :: itemsOf rest) (main, c') f = _
  rw [List.forIn_cons, hf.full p main c' (by omega), bind_assoc]
  congr 1

section
variable {w : World} {n : Nat} {os : OsState} {pos : Pos} {T : BT}
theorem ins_any {a : Obj} (b : Obj) (e : ((T.ins n a).get n).isSome = true) : ((T.ins n b).get n).isSome = true := by
  rw [← ins_put a b T n e, BT.get_set, if_pos rfl, Option.isSome_map]; exact e
theorem put_self {o : Obj} : ∀ (T : BT) (d : Nat), T.get d = some o → put T d o = T
  | .nil, _, h => by cases h
  | .node v l r, d, h => by
    unfold put
    rw [BT.get_node] at h
    rw [BT.set_node]
    by_cases hd : d = 0
    · rw [if_pos hd] at h ⊢; cases h; rfl
    · rw [if_neg hd] at h ⊢
      by_cases p : d % 2 = 1
      · rw [if_pos p] at h ⊢
        have := put_self l (d / 2) h
        unfold put at this
        rw [this]
      · rw [if_neg p] at h ⊢
        have := put_self r (d / 2 - 1) h
        unfold put at this
        rw [this]
theorem flush_first (hi : Nat.ble 11 n = true) {k : Nat} {L : List (Int × Str)} (e : ((T.ins n (objD [] 0)).get n).isSome = true) (hL : 15 < L.length) (g : Good [] L) :
    G w (2 + 13 * L.length) (flushF (L.map (pairS pos)) none) (sT T n k os) pos (some n) (sT (T.ins n (objD (entsFrom k L) L.length)) (n + 1) (k + 3 * L.length) os) pos := by
  unfold flushF
  rw [if_neg (by cases L with | nil => cases hL | cons => simp)]
  exact G.bind (n := 2 + 13 * L.length) (k := 0) (G.subLong hi e hL g) (G.pure' _)
theorem flush_more {d : Nat} (hd : Nat.ble 11 d = true) (hdn : d < n) (hs : (n == sysModules) = false) {k m ns : Nat} {es ks : List DictEntry} {c : List SP} (hc : c ≠ []) (h0 : es ≠ []) (hT : T.get d = some (objD es m))
    (e : ((T.ins n (objD [] 0)).get n).isSome = true) {k' : Nat} (sub : G w ns (subDict c) (sT T n k os) pos n (sT (T.ins n (objD ks ks.length)) (n + 1) k' os) pos)
    (hks : ∀ x ∈ ks, ∃ i t v, x.key = .int i t ∧ x.val = v) (hf : ∀ x ∈ es, ∀ y ∈ ks, x.hash ≠ y.hash) (hnd : (ks.map (·.hash)).Nodup) (hsz : es.length + ks.length ≤ 2 ^ 20) :
    G w (ns + (5 + 6 * ks.length)) (flushF c (some d)) (sT T n k os) pos (some d) (sT (put (T.ins n (objD ks ks.length)) d (objD (es ++ ks) (m + ks.length))) (n + 1) k' os) pos := by
  unfold flushF
  rw [if_neg (by cases c with | nil => exact absurd rfl hc | cons => simp)]
  dsimp only
  have hne : n ≠ d := by omega
  have e' := ins_any (objD ks ks.length) e
  have gd : (T.ins n (objD ks ks.length)).get d = some (objD es m) := by rw [BT.get_ins _ _ _ e', if_neg (by omega)]; exact hT
  have ga : (T.ins n (objD ks ks.length)).get n = some (objD ks ks.length) := by rw [BT.get_ins _ _ _ e', if_pos rfl]
  have hm := G.merge (w := w) (n := n + 1) (d := d) (a := n) (os := os) (pos := pos) (T := T.ins n (objD ks ks.length)) (k := k') (m := m) (m' := ks.length) (es := es) (ks := ks)
    (Nat.ble_eq_true_of_le (by omega)) (Nat.ble_eq_true_of_le (by omega)) hd hne hs hks (by rw [gd]; rfl) ga h0 hf hnd hsz
  rw [put_self _ _ gd] at hm
  refine G.bind (n := ns) (k := 5 + 6 * ks.length) (G.holding _ sub) ?_
  exact G.bind (n := 5 + 6 * ks.length) (k := 0) (G.onRaise (G.holding _ hm)) (G.pure' _)
end
end Mine
namespace Mine
open PySem PySem.W PySem.Calls PyProof.Rows
noncomputable section

noncomputable def keyI : Option PySem.Expr → Option Int
  | some (.Constant (.int i) _ _) => some i
  | _ => none
noncomputable def valS : PySem.Expr → Option Str
  | .Constant (.str s) _ _ => some s
  | _ => none
theorem keyI_some {k : Option PySem.Expr} {i : Int} (h : keyI k = some i) : ∃ a b, k = some (.Constant (.int i) a b) := by
  unfold keyI at h
  split at h
  · cases h; exact ⟨_, _, rfl⟩
  · cases h
theorem valS_some {v : PySem.Expr} {s : Str} (h : valS v = some s) : ∃ a b, v = .Constant (.str s) a b := by
  unfold valS at h
  split at h
  · cases h; exact ⟨_, _, rfl⟩
  · cases h
noncomputable def tabOf : List (Option PySem.Expr) → List PySem.Expr → Option (List (Int × Str))
  | [], vs => match vs with | [] => some [] | _ :: _ => none
  | k :: ks, vs => match vs with
    | [] => none
    | v :: vs => (keyI k).bind fun i => (valS v).bind fun s => (tabOf ks vs).map ((i, s) :: ·)
theorem tabOf_items (pos : Pos) (ks : List (Option PySem.Expr)) : ∀ (vs : List PySem.Expr) (L : List (Int × Str)), tabOf ks vs = some L →
    (evalEachOpt ks env).zip ((evalEach vs env).map fun v => do let x ← v; standAt pos; pure x) = itemsOf (L.map (pairS pos)) := by
  induction ks with
  | nil =>
    intro vs L h
    cases vs with
    | nil => cases h; rfl
    | cons => cases h
  | cons k ks ih =>
    intro vs L h
    cases vs with
    | nil => cases h
    | cons v vs =>
      obtain ⟨i, hi, h⟩ := Option.bind_eq_some_iff.mp h
      obtain ⟨s, hs, h⟩ := Option.bind_eq_some_iff.mp h
      obtain ⟨L', h', rfl⟩ := Option.map_eq_some_iff.mp h
      obtain ⟨_, _, rfl⟩ := keyI_some hi
      obtain ⟨_, _, rfl⟩ := valS_some hs
      show (some (mkInt i), _) :: List.zip _ _ = _
      rw [ih vs L' h']; rfl

noncomputable def b3Keys : List (Option PySem.Expr) := match stN 3 with | .Assign _ (.Dict ks _ _) _ => ks | _ => []
noncomputable def b3Vals : List PySem.Expr := match stN 3 with | .Assign _ (.Dict _ vs _) _ => vs | _ => []
noncomputable def b3 : List (Int × Str) := (tabOf b3Keys b3Vals).getD []
theorem b3_tab : tabOf b3Keys b3Vals = some b3 := by
  have h : (tabOf b3Keys b3Vals).isSome = true := by kernel_rfl
  unfold b3
  obtain ⟨x, hx⟩ := Option.isSome_iff_exists.mp h
  rw [hx]; rfl
theorem b3_len : b3.length = 650 := by kernel_rfl
noncomputable def rising : List Int → Bool
  | a :: b :: r => decide (a < b) && rising (b :: r)
  | _ => true
theorem b3_rising : rising (b3.map (·.1)) = true := by kernel_rfl
theorem b3_bounds : (b3.all fun p => decide (0 ≤ p.1) && decide (p.1 < 2 ^ 60)) = true := by kernel_rfl
theorem rising_pw : ∀ (l : List Int), rising l = true → l.Pairwise (· < ·)
  | [], _ => .nil
  | [a], _ => by simp
  | a :: b :: r, h => by
    unfold rising at h
    obtain ⟨h1, h2⟩ := Bool.and_eq_true_iff.mp h
    have ih := rising_pw (b :: r) h2
    refine List.Pairwise.cons (fun x hx => ?_) ih
    have hab : a < b := of_decide_eq_true h1
    rcases List.mem_cons.mp hx with rfl | hx
    · exact hab
    · exact Int.lt_trans hab ((List.pairwise_cons.mp ih).1 x hx)
theorem b3_nodup : (b3.map (·.1)).Nodup := (rising_pw _ b3_rising).imp fun h => Int.ne_of_lt h
theorem b3_lo : ∀ p ∈ b3, 0 ≤ p.1 := fun p hp => by
  have := List.all_eq_true.mp b3_bounds p hp
  exact of_decide_eq_true (Bool.and_eq_true_iff.mp this).1
theorem b3_hi : ∀ p ∈ b3, p.1 < 2 ^ 60 := fun p hp => by
  have := List.all_eq_true.mp b3_bounds p hp
  exact of_decide_eq_true (Bool.and_eq_true_iff.mp this).2
/-- two parts of the table, one behind the other -/
theorem good_sub {C : List (Int × Str)} (h : C.Sublist b3) : Good [] C :=
  ⟨fun p hp => b3_lo p (h.subset hp), fun p hp => b3_hi p (h.subset hp), by simpa using b3_nodup.sublist (h.map _), by
    have := h.length_le
    rw [b3_len] at this
    simp only [List.length_nil]; omega⟩
theorem apart_sub {A C : List (Int × Str)} (h : (A ++ C).Sublist b3) : ∀ x ∈ A.map (·.1), ∀ y ∈ C.map (·.1), x ≠ y := by
  have := b3_nodup.sublist (h.map (·.1))
  rw [List.map_append] at this
  exact fun x hx y hy => (List.nodup_append.mp this).2.2 x hx y hy

noncomputable def chunk (k : Nat) : List (Int × Str) := (b3.drop (17 * k)).take 17
noncomputable def lastL : List (Int × Str) := b3.drop 646
noncomputable def subO (k : Nat) : Obj := objD (entsFrom (256 + 51 * k) (chunk k)) 17
noncomputable def mainO (k : Nat) : Obj := objD (entsFrom 256 (b3.take (17 * k))) (17 * k)
noncomputable def lastO : Obj := objD (entsLast 2194 lastL) 4
noncomputable def b3O : Obj := objD (entsFrom 256 (b3.take 646) ++ entsLast 2194 lastL) 650
noncomputable def TT (P : Params) : Nat → BT
  | 0 => (Ta P).ins 33 (mainO 1)
  | k + 1 => put ((TT P k).ins (34 + k) (subO (k + 1))) 33 (mainO (k + 2))
noncomputable def TTlast (P : Params) : BT := put ((TT P 37).ins 71 lastO) 33 b3O

theorem can0 (P : Params) : (((Ta P).ins 33 (objD [] 0)).get 33).isSome = true := by kernel_rfl
theorem canAll (P : Params) : ((List.range 38).all fun k => (((TT P k).ins (34 + k) (objD [] 0)).get (34 + k)).isSome) = true := by kernel_rfl
theorem can (P : Params) {k : Nat} (h : k < 38) : (((TT P k).ins (34 + k) (objD [] 0)).get (34 + k)).isSome = true :=
  List.all_eq_true.mp (canAll P) k (List.mem_range.mpr h)
theorem tt_main (P : Params) : ∀ k, k < 38 → (TT P k).get 33 = some (mainO (k + 1))
  | 0, _ => by
    show ((Ta P).ins 33 (mainO 1)).get 33 = _
    rw [BT.get_ins _ _ _ (ins_any _ (can0 P)), if_pos rfl]
  | k + 1, h => by
    have ih := tt_main P k (by omega)
    show (put ((TT P k).ins (34 + k) (subO (k + 1))) 33 (mainO (k + 2))).get 33 = _
    refine put_get ?_
    rw [BT.get_ins _ _ _ (ins_any _ (can P (by omega))), if_neg (by omega), ih]; rfl
theorem chunk_len {k : Nat} (h : k < 38) : (chunk k).length = 17 := by
  unfold chunk
  rw [List.length_take, List.length_drop, b3_len]; omega
theorem take_next (k : Nat) : b3.take (17 * (k + 1)) = b3.take (17 * k) ++ chunk k := by
  unfold chunk
  rw [show 17 * (k + 1) = 17 * k + 17 by omega, List.take_add]
theorem drop_next (k : Nat) : b3.drop (17 * k) = chunk k ++ b3.drop (17 * (k + 1)) := by
  unfold chunk
  rw [show 17 * (k + 1) = 17 * k + 17 by omega, ← List.drop_drop, List.take_append_drop]
end
end Mine
namespace Mine
open PySem PySem.W PySem.Calls PyProof.Rows
noncomputable section

section
variable {w : World} {os : OsState} {pos : Pos}
noncomputable abbrev cS (pos : Pos) (C : List (Int × Str)) : List SP := C.map (pairS pos)
theorem chunk_sub (k : Nat) : (chunk k).Sublist b3 := (List.take_sublist _ _).trans (List.drop_sublist _ _)
theorem take_chunk_sub (k : Nat) : (b3.take (17 * k) ++ chunk k).Sublist b3 := by rw [← take_next]; exact List.take_sublist _ _
theorem first_flush (P : Params) : G w 223 (flushF (cS pos (chunk 0)) none) (sT (Ta P) 33 256 os) pos (some 33) (sT (TT P 0) 34 307 os) pos := by
  have h := flush_first (w := w) (n := 33) (os := os) (pos := pos) (T := Ta P) (k := 256) (L := chunk 0) (by decide) (can0 P) (by rw [chunk_len (by decide)]; decide) (good_sub (chunk_sub 0))
  rw [chunk_len (by decide)] at h
  have e : entsFrom 256 (chunk 0) = entsFrom 256 (b3.take (17 * 1)) := by rw [take_next 0]; rfl
  rw [e] at h
  exact h
theorem more_flush (P : Params) {k : Nat} (hk : k < 37) : G w 330 (flushF (cS pos (chunk (k + 1))) (some 33)) (sT (TT P k) (34 + k) (256 + 51 * (k + 1)) os) pos (some 33) (sT (TT P (k + 1)) (34 + (k + 1)) (256 + 51 * (k + 2)) os) pos := by
  have hl : (chunk (k + 1)).length = 17 := chunk_len (by omega)
  have sub := G.subLong (w := w) (n := 34 + k) (os := os) (pos := pos) (T := TT P k) (k := 256 + 51 * (k + 1)) (L := chunk (k + 1)) (Nat.ble_eq_true_of_le (by omega)) (can P (by omega)) (by rw [hl]; decide) (good_sub (chunk_sub _))
  rw [hl] at sub
  have e0 : (entsFrom (256 + 51 * (k + 1)) (chunk (k + 1))).length = 17 := by rw [entsFrom_length, hl]
  have hx : (b3.take (17 * (k + 1))).length = 17 * (k + 1) := by rw [List.length_take, b3_len]; omega
  have h := flush_more (w := w) (n := 34 + k) (os := os) (pos := pos) (T := TT P k) (d := 33) (by decide) (by omega) (by rw [beq_eq_false_iff_ne]; show 34 + k ≠ 1; omega) (k := 256 + 51 * (k + 1)) (m := 17 * (k + 1)) (ns := 2 + 13 * 17)
    (es := entsFrom 256 (b3.take (17 * (k + 1)))) (ks := entsFrom (256 + 51 * (k + 1)) (chunk (k + 1))) (c := cS pos (chunk (k + 1))) (by intro q; have := congrArg List.length q; rw [List.length_map, hl] at this; cases this)
    (by intro q; have := congrArg List.length q; rw [entsFrom_length, hx] at this; simp at this) (tt_main P k (by omega)) (can P (by omega)) (k' := 256 + 51 * (k + 1) + 3 * 17) (by rw [e0]; exact sub)
    (entsFrom_keys _ _) (by
      intro x hx y hy
      refine apart_sub (take_chunk_sub (k + 1)) x.hash ?_ y.hash ?_
      · rw [← entsFrom_hash 256]; exact List.mem_map_of_mem hx
      · rw [← entsFrom_hash (256 + 51 * (k + 1))]; exact List.mem_map_of_mem hy)
    (by rw [entsFrom_hash]; exact b3_nodup.sublist ((chunk_sub _).map _)) (by rw [e0, entsFrom_length, hx]; omega)
  rw [e0] at h
  have e1 : entsFrom 256 (b3.take (17 * (k + 1))) ++ entsFrom (256 + 51 * (k + 1)) (chunk (k + 1)) = entsFrom 256 (b3.take (17 * (k + 2))) := by
    rw [take_next (k + 1), entsFrom_append, hx, show 256 + 3 * (17 * (k + 1)) = 256 + 51 * (k + 1) by omega]
  rw [e1, show 17 * (k + 1) + 17 = 17 * (k + 2) by omega, show 256 + 51 * (k + 1) + 3 * 17 = 256 + 51 * (k + 2) by omega] at h
  exact h
theorem chunks_run (P : Params) {f : Body} (hf : IsBody f) : ∀ (j k : Nat), k + j = 37 →
    G w (330 * j) (forIn (itemsOf (cS pos (b3.drop (17 * (k + 1))))) ((some 33 : Option Addr), ([] : List SP)) f) (sT (TT P k) (34 + k) (256 + 51 * (k + 1)) os) pos
      ((some 33 : Option Addr), cS pos lastL) (sT (TT P 37) 71 2194 os) pos
  | 0, k, h => by
    obtain rfl : k = 37 := by omega
    have e : forIn (itemsOf (cS pos (b3.drop (17 * (37 + 1))))) ((some 33 : Option Addr), ([] : List SP)) f = (pure (some 33, cS pos lastL) : Sem _) := by
      have := gather hf [] (cS pos lastL) [] (some 33) (by rw [List.length_nil, List.length_map, lastL, List.length_drop, b3_len]; decide)
      rw [List.append_nil, List.nil_append] at this
      exact this
    rw [e]
    exact G.pure' _
  | j + 1, k, h => by
    have ih := chunks_run P hf j (k + 1) (by omega)
    rw [drop_next (k + 1)]
    unfold cS
    rw [List.map_append, gather17 hf _ _ (by rw [List.length_map, chunk_len (by omega)]) (some 33), show 330 * (j + 1) = 330 + 330 * j by omega]
    exact G.bind (n := 330) (more_flush P (by omega)) ih
theorem last_flush (P : Params) : G w 82 (flushF (cS pos lastL) (some 33)) (sT (TT P 37) 71 2194 os) pos (some 33) (sT (TTlast P) 72 2206 os) pos := by
  have hl : lastL.length = 4 := by rw [lastL, List.length_drop, b3_len]
  have hs : lastL.Sublist b3 := List.drop_sublist _ _
  have sub := G.subShort (w := w) (n := 71) (os := os) (pos := pos) (T := TT P 37) (k := 2194) (L := lastL) (by decide) (can P (by omega)) (by rw [hl]; decide) (good_sub hs)
  rw [hl] at sub
  have e0 : (entsLast 2194 lastL).length = 4 := by rw [entsLast_length, hl]
  have hx : (b3.take 646).length = 646 := by rw [List.length_take, b3_len]; decide
  have hts : (b3.take 646 ++ lastL).Sublist b3 := by rw [lastL, List.take_append_drop]; exact List.Sublist.refl _
  have h := flush_more (w := w) (n := 71) (os := os) (pos := pos) (T := TT P 37) (d := 33) (by decide) (by omega) (by decide) (k := 2194) (m := 646) (ns := 1 + 13 * 4)
    (es := entsFrom 256 (b3.take 646)) (ks := entsLast 2194 lastL) (c := cS pos lastL) (by intro q; have := congrArg List.length q; rw [List.length_map, hl] at this; cases this)
    (by intro q; have := congrArg List.length q; rw [entsFrom_length, hx] at this; cases this) (tt_main P 37 (by omega)) (can P (by omega)) (k' := 2194 + 3 * 4) (by rw [e0]; exact sub)
    (entsLast_keys _ _) (by
      intro x hx y hy
      refine apart_sub hts x.hash ?_ y.hash ?_
      · rw [← entsFrom_hash 256]; exact List.mem_map_of_mem hx
      · rw [← entsLast_hash 2194]; exact List.mem_map_of_mem hy)
    (by rw [entsLast_hash]; exact b3_nodup.sublist (hs.map _)) (by rw [e0, entsFrom_length, hx]; decide)
  rw [e0] at h
  exact h
theorem display_run (P : Params) : G w 12515 (dictDisplay (itemsOf (cS pos b3))) (sT (Ta P) 33 256 os) pos (.ref 33) (sT (TTlast P) 72 2206 os) pos := by
  obtain ⟨f, hf, e⟩ := display_eq (cS pos b3)
  rw [e, show 12515 = (223 + 330 * 37) + (82 + 0) by decide]
  refine G.bind (n := 223 + 330 * 37) (a := ((some 33 : Option Addr), cS pos lastL)) (s₁ := sT (TT P 37) 71 2194 os) (q₁ := pos) ?_ (G.bind (n := 82) (k := 0) (last_flush P) (G.pure' _))
  have e2 : b3 = chunk 0 ++ b3.drop (17 * (0 + 1)) := by have := drop_next 0; simpa using this
  have e3 : cS pos b3 = cS pos (chunk 0) ++ cS pos (b3.drop (17 * (0 + 1))) := by
    unfold cS
    rw [← List.map_append, ← e2]
  rw [e3, gather17 hf _ _ (by rw [List.length_map, chunk_len (by decide)]) none]
  exact G.bind (n := 223) (first_flush P) (chunks_run P hf 37 0 (by omega))
end
end
end Mine
namespace Mine
open PySem PySem.W PySem.Calls PyProof.Rows
noncomputable section
noncomputable def od33 (P : Params) : Obj := b3O
noncomputable def od34 (P : Params) : Obj := subO 1
noncomputable def od35 (P : Params) : Obj := subO 2
noncomputable def od36 (P : Params) : Obj := subO 3
noncomputable def od37 (P : Params) : Obj := subO 4
noncomputable def od38 (P : Params) : Obj := subO 5
noncomputable def od39 (P : Params) : Obj := subO 6
noncomputable def od40 (P : Params) : Obj := subO 7
noncomputable def od41 (P : Params) : Obj := subO 8
noncomputable def od42 (P : Params) : Obj := subO 9
noncomputable def od43 (P : Params) : Obj := subO 10
noncomputable def od44 (P : Params) : Obj := subO 11
noncomputable def od45 (P : Params) : Obj := subO 12
noncomputable def od46 (P : Params) : Obj := subO 13
noncomputable def od47 (P : Params) : Obj := subO 14
noncomputable def od48 (P : Params) : Obj := subO 15
noncomputable def od49 (P : Params) : Obj := subO 16
noncomputable def od50 (P : Params) : Obj := subO 17
noncomputable def od51 (P : Params) : Obj := subO 18
noncomputable def od52 (P : Params) : Obj := subO 19
noncomputable def od53 (P : Params) : Obj := subO 20
noncomputable def od54 (P : Params) : Obj := subO 21
noncomputable def od55 (P : Params) : Obj := subO 22
noncomputable def od56 (P : Params) : Obj := subO 23
noncomputable def od57 (P : Params) : Obj := subO 24
noncomputable def od58 (P : Params) : Obj := subO 25
noncomputable def od59 (P : Params) : Obj := subO 26
noncomputable def od60 (P : Params) : Obj := subO 27
noncomputable def od61 (P : Params) : Obj := subO 28
noncomputable def od62 (P : Params) : Obj := subO 29
noncomputable def od63 (P : Params) : Obj := subO 30
noncomputable def od64 (P : Params) : Obj := subO 31
noncomputable def od65 (P : Params) : Obj := subO 32
noncomputable def od66 (P : Params) : Obj := subO 33
noncomputable def od67 (P : Params) : Obj := subO 34
noncomputable def od68 (P : Params) : Obj := subO 35
noncomputable def od69 (P : Params) : Obj := subO 36
noncomputable def od70 (P : Params) : Obj := subO 37
noncomputable def od71 (P : Params) : Obj := lastO
noncomputable def od3 (P : Params) : Obj := { cls := (.type "dict"), dict := none, data := (.dict #[(es P (Str.ofString "__name__") 165 (.str (Str.ofString "cpy313.stringprep") 187)), (es P (Str.ofString "__doc__") 166 .none), (es P (Str.ofString "__package__") 167 .none), (es P (Str.ofString "__loader__") 168 (.builtin "__main__.__loader__#opaque")), (es P (Str.ofString "__spec__") 169 .none), (es P (Str.ofString "__annotations__") 170 (.ref 6)), (es P (Str.ofString "__builtins__") 171 (.ref 4)), (es P (Str.ofString "__file__") 173 (.str (Str.ofString "/claim/cut.py") 172)), (es P (Str.ofString "__cached__") 174 .none), (es P (Str.ofString "b1_set") 248 (.ref 22)), (es P (Str.ofString "in_table_b1") 255 (.ref 32)), (es P (Str.ofString "b3_exceptions") 2206 (.ref 33))] 12), slots := #[] }
noncomputable def om3 (P : Params) : Obj := { cls := (.type "dict"), dict := none, data := (.dict #[(es P (Str.ofString "__name__") 165 (.str (Str.ofString "law_rw0102_01") 2274)), (es P (Str.ofString "__doc__") 166 .none), (es P (Str.ofString "__package__") 167 .none), (es P (Str.ofString "__loader__") 168 (.builtin "__main__.__loader__#opaque")), (es P (Str.ofString "__spec__") 169 .none), (es P (Str.ofString "__annotations__") 170 (.ref 6)), (es P (Str.ofString "__builtins__") 171 (.ref 4)), (es P (Str.ofString "__file__") 173 (.str (Str.ofString "/claim/cut.py") 172)), (es P (Str.ofString "__cached__") 174 .none), (es P (Str.ofString "b1_set") 248 (.ref 22)), (es P (Str.ofString "in_table_b1") 255 (.ref 32)), (es P (Str.ofString "b3_exceptions") 2206 (.ref 33)), (es P (Str.ofString "map_table_b3") 2214 (.ref 78)), (es P (Str.ofString "COMPILER_FLAG_NAMES") 2247 (.ref 79)), (es P (Str.ofString "pretty_flags") 2257 (.ref 86)), (es P (Str.ofString "ELLIPSIS_MARKER") 2261 (.str (Str.ofString "...") 2260)), (es P (Str.ofString "_ellipsis_match") 2273 (.ref 93))] 17), slots := #[] }
noncomputable def om12 (P : Params) : Obj := { cls := .none, dict := none, data := (.fields #[(.int 3 0), (.int 0 0), (.ref 31), (.int 6 0), (.int 0 0), (.ref 77), (.int 13 0), (.int 0 0), (.ref 85), (.int 27 0), (.int 0 0), (.ref 92)]), slots := #[] }
noncomputable def om72 (P : Params) : Obj := { cls := (.type "tuple"), dict := none, data := (.seq #[] 0), slots := #[] }
noncomputable def om73 (P : Params) : Obj := { cls := .none, dict := none, data := (.fields #[]), slots := #[] }
noncomputable def om74 (P : Params) : Obj := { cls := (.type "tuple"), dict := none, data := (.seq #[(.str (Str.ofString "code") 2210), (.str (Str.ofString "r") 2211)] 0), slots := #[] }
noncomputable def om75 (P : Params) : Obj := { cls := (.type "tuple"), dict := none, data := (.seq #[] 0), slots := #[] }
noncomputable def om76 (P : Params) : Obj := { cls := .none, dict := none, data := (.func { name := (Str.ofString "map_table_b3"), qualname := (Str.ofString "map_table_b3"), params := fArgs 4, body := .stmts (fBody 4), scope := fScope 4, globals := 0, closure := [], defaults := .none, kwdefaults := .none, doc := .none, pyModule := .none, annotations := none, code := .none, closureTuple := .none, builtins := 0 }), slots := #[] }
noncomputable def om77 (P : Params) : Obj := { cls := (.type "code"), dict := none, data := (.fields #[(.str (Str.ofString "map_table_b3") 2207), (.str (Str.ofString "map_table_b3") 2208), (.str (Str.ofString "/claim/cut.py") 2209), (.int 6 0), (.int 1 0), (.int 0 0), (.int 0 0), (.int 3 0), (.ref 72), (.bool true), (.int 181 0), (.ref 73), .none, (.ref 74), (.ref 75), (.ref 76), (.int 2212 0), (.int 6 0), (.str (Str.ofString "/claim/cut.py") 2213)]), slots := #[] }
noncomputable def om78 (P : Params) : Obj := { cls := (.type "function"), dict := none, data := (.func { name := (Str.ofString "map_table_b3"), qualname := (Str.ofString "map_table_b3"), params := fArgs 4, body := .stmts (fBody 4), scope := fScope 4, globals := 3, closure := [], defaults := .none, kwdefaults := .none, doc := .none, pyModule := (.str (Str.ofString "cpy313.stringprep") 187), annotations := none, code := (.ref 77), closureTuple := .none, builtins := 0 }), slots := #[] }
noncomputable def om79 (P : Params) : Obj := { cls := (.type "dict"), dict := none, data := (.dict #[(DictEntry.mk 1 (.int 1 2217) (.str (Str.ofString "OPTIMIZED") 2218)), (DictEntry.mk 2 (.int 2 2219) (.str (Str.ofString "NEWLOCALS") 2220)), (DictEntry.mk 4 (.int 4 2221) (.str (Str.ofString "VARARGS") 2222)), (DictEntry.mk 8 (.int 8 2223) (.str (Str.ofString "VARKEYWORDS") 2224)), (DictEntry.mk 16 (.int 16 2225) (.str (Str.ofString "NESTED") 2226)), (DictEntry.mk 32 (.int 32 2227) (.str (Str.ofString "GENERATOR") 2228)), (DictEntry.mk 64 (.int 64 2229) (.str (Str.ofString "NOFREE") 2230)), (DictEntry.mk 128 (.int 128 2231) (.str (Str.ofString "COROUTINE") 2232)), (DictEntry.mk 256 (.int 256 2233) (.str (Str.ofString "ITERABLE_COROUTINE") 2234)), (DictEntry.mk 512 (.int 512 2235) (.str (Str.ofString "ASYNC_GENERATOR") 2236))] 10), slots := #[] }
noncomputable def om80 (P : Params) : Obj := { cls := (.type "tuple"), dict := none, data := (.seq #[] 0), slots := #[] }
noncomputable def om81 (P : Params) : Obj := { cls := .none, dict := none, data := (.fields #[]), slots := #[] }
noncomputable def om82 (P : Params) : Obj := { cls := (.type "tuple"), dict := none, data := (.seq #[(.str (Str.ofString "flags") 2251), (.str (Str.ofString "names") 2252), (.str (Str.ofString "i") 2253), (.str (Str.ofString "flag") 2254)] 0), slots := #[] }
noncomputable def om83 (P : Params) : Obj := { cls := (.type "tuple"), dict := none, data := (.seq #[] 0), slots := #[] }
noncomputable def om84 (P : Params) : Obj := { cls := .none, dict := none, data := (.func { name := (Str.ofString "pretty_flags"), qualname := (Str.ofString "pretty_flags"), params := fArgs 7, body := .stmts (fBody 7), scope := fScope 7, globals := 0, closure := [], defaults := .none, kwdefaults := .none, doc := .none, pyModule := .none, annotations := none, code := .none, closureTuple := .none, builtins := 0 }), slots := #[] }
noncomputable def om85 (P : Params) : Obj := { cls := (.type "code"), dict := none, data := (.fields #[(.str (Str.ofString "pretty_flags") 2248), (.str (Str.ofString "pretty_flags") 2249), (.str (Str.ofString "/claim/cut.py") 2250), (.int 13 0), (.int 1 0), (.int 0 0), (.int 0 0), (.int 3 0), (.ref 80), (.bool true), (.int 181 0), (.ref 81), .none, (.ref 82), (.ref 83), (.ref 84), (.int 2255 0), (.int 13 0), (.str (Str.ofString "/claim/cut.py") 2256)]), slots := #[] }
noncomputable def om86 (P : Params) : Obj := { cls := (.type "function"), dict := none, data := (.func { name := (Str.ofString "pretty_flags"), qualname := (Str.ofString "pretty_flags"), params := fArgs 7, body := .stmts (fBody 7), scope := fScope 7, globals := 3, closure := [], defaults := .none, kwdefaults := .none, doc := .none, pyModule := (.str (Str.ofString "cpy313.dis") 2215), annotations := none, code := (.ref 85), closureTuple := .none, builtins := 0 }), slots := #[] }
noncomputable def om87 (P : Params) : Obj := { cls := (.type "tuple"), dict := none, data := (.seq #[] 0), slots := #[] }
noncomputable def om88 (P : Params) : Obj := { cls := .none, dict := none, data := (.fields #[]), slots := #[] }
noncomputable def om89 (P : Params) : Obj := { cls := (.type "tuple"), dict := none, data := (.seq #[(.str (Str.ofString "want") 2265), (.str (Str.ofString "got") 2266), (.str (Str.ofString "ws") 2267), (.str (Str.ofString "startpos") 2268), (.str (Str.ofString "endpos") 2269), (.str (Str.ofString "w") 2270)] 0), slots := #[] }
noncomputable def om90 (P : Params) : Obj := { cls := (.type "tuple"), dict := none, data := (.seq #[] 0), slots := #[] }
noncomputable def om91 (P : Params) : Obj := { cls := .none, dict := none, data := (.func { name := (Str.ofString "_ellipsis_match"), qualname := (Str.ofString "_ellipsis_match"), params := fArgs 10, body := .stmts (fBody 10), scope := fScope 10, globals := 0, closure := [], defaults := .none, kwdefaults := .none, doc := .none, pyModule := .none, annotations := none, code := .none, closureTuple := .none, builtins := 0 }), slots := #[] }
noncomputable def om92 (P : Params) : Obj := { cls := (.type "code"), dict := none, data := (.fields #[(.str (Str.ofString "_ellipsis_match") 2262), (.str (Str.ofString "_ellipsis_match") 2263), (.str (Str.ofString "/claim/cut.py") 2264), (.int 27 0), (.int 2 0), (.int 0 0), (.int 0 0), (.int 3 0), (.ref 87), (.bool true), (.int 181 0), (.ref 88), .none, (.ref 89), (.ref 90), (.ref 91), (.int 2271 0), (.int 27 0), (.str (Str.ofString "/claim/cut.py") 2272)]), slots := #[] }
noncomputable def om93 (P : Params) : Obj := { cls := (.type "function"), dict := none, data := (.func { name := (Str.ofString "_ellipsis_match"), qualname := (Str.ofString "_ellipsis_match"), params := fArgs 10, body := .stmts (fBody 10), scope := fScope 10, globals := 3, closure := [], defaults := .none, kwdefaults := .none, doc := .none, pyModule := (.str (Str.ofString "cpy313.doctest") 2258), annotations := none, code := (.ref 92), closureTuple := .none, builtins := 0 }), slots := #[] }
noncomputable def oe3 (P : Params) : Obj := { cls := (.type "dict"), dict := none, data := (.dict #[(es P (Str.ofString "__name__") 165 (.str (Str.ofString "law_rw0102_01") 2274)), (es P (Str.ofString "__doc__") 166 .none), (es P (Str.ofString "__package__") 167 .none), (es P (Str.ofString "__loader__") 168 (.builtin "__main__.__loader__#opaque")), (es P (Str.ofString "__spec__") 169 .none), (es P (Str.ofString "__annotations__") 170 (.ref 6)), (es P (Str.ofString "__builtins__") 171 (.ref 4)), (es P (Str.ofString "__file__") 173 (.str (Str.ofString "/claim/cut.py") 172)), (es P (Str.ofString "__cached__") 174 .none), (es P (Str.ofString "b1_set") 248 (.ref 22)), (es P (Str.ofString "in_table_b1") 255 (.ref 32)), (es P (Str.ofString "b3_exceptions") 2206 (.ref 33)), (es P (Str.ofString "map_table_b3") 2214 (.ref 78)), (es P (Str.ofString "COMPILER_FLAG_NAMES") 2247 (.ref 79)), (es P (Str.ofString "pretty_flags") 2257 (.ref 86)), (es P (Str.ofString "ELLIPSIS_MARKER") 2261 (.str (Str.ofString "...") 2260)), (es P (Str.ofString "_ellipsis_match") 2273 (.ref 93)), (es P (Str.ofString "_law_drawn") 2285 (.ref 100)), (es P (Str.ofString "_law_word") 2293 (.ref 107)), (es P (Str.ofString "_law_members") 2299 (.ref 112)), (es P (Str.ofString "_law_letter") 2307 (.ref 119)), (es P (Str.ofString "_law_sign") 2315 (.ref 126)), (es P (Str.ofString "_law_typed") 2321 (.ref 131)), (es P (Str.ofString "_law_prepared") 2330 (.ref 138)), (es P (Str.ofString "_law_undone") 2340 (.ref 145)), (es P (Str.ofString "_law_meant") 2348 (.ref 152)), (es P (Str.ofString "law") 2354 (.ref 157))] 27), slots := #[] }
noncomputable def oe12 (P : Params) : Obj := { cls := .none, dict := none, data := (.fields #[(.int 3 0), (.int 0 0), (.ref 31), (.int 6 0), (.int 0 0), (.ref 77), (.int 13 0), (.int 0 0), (.ref 85), (.int 27 0), (.int 0 0), (.ref 92), (.int 56 0), (.int 0 0), (.ref 99), (.int 61 0), (.int 0 0), (.ref 106), (.int 64 0), (.int 0 0), (.ref 111), (.int 66 0), (.int 0 0), (.ref 118), (.int 70 0), (.int 0 0), (.ref 125), (.int 75 0), (.int 0 0), (.ref 130), (.int 82 0), (.int 0 0), (.ref 137), (.int 88 0), (.int 0 0), (.ref 144), (.int 95 0), (.int 0 0), (.ref 151), (.int 98 0), (.int 0 0), (.ref 156)]), slots := #[] }
noncomputable def oe94 (P : Params) : Obj := { cls := (.type "tuple"), dict := none, data := (.seq #[] 0), slots := #[] }
noncomputable def oe95 (P : Params) : Obj := { cls := .none, dict := none, data := (.fields #[]), slots := #[] }
noncomputable def oe96 (P : Params) : Obj := { cls := (.type "tuple"), dict := none, data := (.seq #[(.str (Str.ofString "script") 2279), (.str (Str.ofString "numbers") 2280), (.str (Str.ofString "k") 2281), (.str (Str.ofString "x") 2282)] 0), slots := #[] }
noncomputable def oe97 (P : Params) : Obj := { cls := (.type "tuple"), dict := none, data := (.seq #[] 0), slots := #[] }
noncomputable def oe98 (P : Params) : Obj := { cls := .none, dict := none, data := (.func { name := (Str.ofString "_law_drawn"), qualname := (Str.ofString "_law_drawn"), params := fArgs 12, body := .stmts (fBody 12), scope := fScope 12, globals := 0, closure := [], defaults := .none, kwdefaults := .none, doc := .none, pyModule := .none, annotations := none, code := .none, closureTuple := .none, builtins := 0 }), slots := #[] }
noncomputable def oe99 (P : Params) : Obj := { cls := (.type "code"), dict := none, data := (.fields #[(.str (Str.ofString "_law_drawn") 2276), (.str (Str.ofString "_law_drawn") 2277), (.str (Str.ofString "/claim/cut.py") 2278), (.int 56 0), (.int 1 0), (.int 0 0), (.int 0 0), (.int 3 0), (.ref 94), (.bool true), (.int 181 0), (.ref 95), .none, (.ref 96), (.ref 97), (.ref 98), (.int 2283 0), (.int 56 0), (.str (Str.ofString "/claim/cut.py") 2284)]), slots := #[] }
noncomputable def oe100 (P : Params) : Obj := { cls := (.type "function"), dict := none, data := (.func { name := (Str.ofString "_law_drawn"), qualname := (Str.ofString "_law_drawn"), params := fArgs 12, body := .stmts (fBody 12), scope := fScope 12, globals := 3, closure := [], defaults := .none, kwdefaults := .none, doc := .none, pyModule := (.str (Str.ofString "law_rw0102_01") 2274), annotations := none, code := (.ref 99), closureTuple := .none, builtins := 0 }), slots := #[] }
noncomputable def oe101 (P : Params) : Obj := { cls := (.type "tuple"), dict := none, data := (.seq #[] 0), slots := #[] }
noncomputable def oe102 (P : Params) : Obj := { cls := .none, dict := none, data := (.fields #[]), slots := #[] }
noncomputable def oe103 (P : Params) : Obj := { cls := (.type "tuple"), dict := none, data := (.seq #[(.str (Str.ofString "bit") 2289), (.str (Str.ofString "words") 2290)] 0), slots := #[] }
noncomputable def oe104 (P : Params) : Obj := { cls := (.type "tuple"), dict := none, data := (.seq #[] 0), slots := #[] }
noncomputable def oe105 (P : Params) : Obj := { cls := .none, dict := none, data := (.func { name := (Str.ofString "_law_word"), qualname := (Str.ofString "_law_word"), params := fArgs 13, body := .stmts (fBody 13), scope := fScope 13, globals := 0, closure := [], defaults := .none, kwdefaults := .none, doc := .none, pyModule := .none, annotations := none, code := .none, closureTuple := .none, builtins := 0 }), slots := #[] }
noncomputable def oe106 (P : Params) : Obj := { cls := (.type "code"), dict := none, data := (.fields #[(.str (Str.ofString "_law_word") 2286), (.str (Str.ofString "_law_word") 2287), (.str (Str.ofString "/claim/cut.py") 2288), (.int 61 0), (.int 1 0), (.int 0 0), (.int 0 0), (.int 3 0), (.ref 101), (.bool true), (.int 181 0), (.ref 102), .none, (.ref 103), (.ref 104), (.ref 105), (.int 2291 0), (.int 61 0), (.str (Str.ofString "/claim/cut.py") 2292)]), slots := #[] }
noncomputable def oe107 (P : Params) : Obj := { cls := (.type "function"), dict := none, data := (.func { name := (Str.ofString "_law_word"), qualname := (Str.ofString "_law_word"), params := fArgs 13, body := .stmts (fBody 13), scope := fScope 13, globals := 3, closure := [], defaults := .none, kwdefaults := .none, doc := .none, pyModule := (.str (Str.ofString "law_rw0102_01") 2274), annotations := none, code := (.ref 106), closureTuple := .none, builtins := 0 }), slots := #[] }
noncomputable def oe108 (P : Params) : Obj := { cls := (.type "tuple"), dict := none, data := (.seq #[] 0), slots := #[] }
noncomputable def oe109 (P : Params) : Obj := { cls := .none, dict := none, data := (.fields #[]), slots := #[] }
noncomputable def oe110 (P : Params) : Obj := { cls := .none, dict := none, data := (.func { name := (Str.ofString "_law_members"), qualname := (Str.ofString "_law_members"), params := fArgs 14, body := .stmts (fBody 14), scope := fScope 14, globals := 0, closure := [], defaults := .none, kwdefaults := .none, doc := .none, pyModule := .none, annotations := none, code := .none, closureTuple := .none, builtins := 0 }), slots := #[] }
noncomputable def oe111 (P : Params) : Obj := { cls := (.type "code"), dict := none, data := (.fields #[(.str (Str.ofString "_law_members") 2294), (.str (Str.ofString "_law_members") 2295), (.str (Str.ofString "/claim/cut.py") 2296), (.int 64 0), (.int 2 0), (.int 0 0), (.int 0 0), (.int 3 0), (.ref 108), (.bool true), (.int 181 0), (.ref 109), .none, .none, .none, (.ref 110), (.int 2297 0), (.int 64 0), (.str (Str.ofString "/claim/cut.py") 2298)]), slots := #[] }
noncomputable def oe112 (P : Params) : Obj := { cls := (.type "function"), dict := none, data := (.func { name := (Str.ofString "_law_members"), qualname := (Str.ofString "_law_members"), params := fArgs 14, body := .stmts (fBody 14), scope := fScope 14, globals := 3, closure := [], defaults := .none, kwdefaults := .none, doc := .none, pyModule := (.str (Str.ofString "law_rw0102_01") 2274), annotations := none, code := (.ref 111), closureTuple := .none, builtins := 0 }), slots := #[] }
noncomputable def oe113 (P : Params) : Obj := { cls := (.type "tuple"), dict := none, data := (.seq #[] 0), slots := #[] }
noncomputable def oe114 (P : Params) : Obj := { cls := .none, dict := none, data := (.fields #[]), slots := #[] }
noncomputable def oe115 (P : Params) : Obj := { cls := (.type "tuple"), dict := none, data := (.seq #[(.str (Str.ofString "letter") 2303), (.str (Str.ofString "style") 2304)] 0), slots := #[] }
noncomputable def oe116 (P : Params) : Obj := { cls := (.type "tuple"), dict := none, data := (.seq #[] 0), slots := #[] }
noncomputable def oe117 (P : Params) : Obj := { cls := .none, dict := none, data := (.func { name := (Str.ofString "_law_letter"), qualname := (Str.ofString "_law_letter"), params := fArgs 15, body := .stmts (fBody 15), scope := fScope 15, globals := 0, closure := [], defaults := .none, kwdefaults := .none, doc := .none, pyModule := .none, annotations := none, code := .none, closureTuple := .none, builtins := 0 }), slots := #[] }
noncomputable def oe118 (P : Params) : Obj := { cls := (.type "code"), dict := none, data := (.fields #[(.str (Str.ofString "_law_letter") 2300), (.str (Str.ofString "_law_letter") 2301), (.str (Str.ofString "/claim/cut.py") 2302), (.int 66 0), (.int 2 0), (.int 0 0), (.int 0 0), (.int 3 0), (.ref 113), (.bool true), (.int 181 0), (.ref 114), .none, (.ref 115), (.ref 116), (.ref 117), (.int 2305 0), (.int 66 0), (.str (Str.ofString "/claim/cut.py") 2306)]), slots := #[] }
noncomputable def oe119 (P : Params) : Obj := { cls := (.type "function"), dict := none, data := (.func { name := (Str.ofString "_law_letter"), qualname := (Str.ofString "_law_letter"), params := fArgs 15, body := .stmts (fBody 15), scope := fScope 15, globals := 3, closure := [], defaults := .none, kwdefaults := .none, doc := .none, pyModule := (.str (Str.ofString "law_rw0102_01") 2274), annotations := none, code := (.ref 118), closureTuple := .none, builtins := 0 }), slots := #[] }
noncomputable def oe120 (P : Params) : Obj := { cls := (.type "tuple"), dict := none, data := (.seq #[] 0), slots := #[] }
noncomputable def oe121 (P : Params) : Obj := { cls := .none, dict := none, data := (.fields #[]), slots := #[] }
noncomputable def oe122 (P : Params) : Obj := { cls := (.type "tuple"), dict := none, data := (.seq #[(.str (Str.ofString "x") 2311), (.str (Str.ofString "hidden") 2312)] 0), slots := #[] }
noncomputable def oe123 (P : Params) : Obj := { cls := (.type "tuple"), dict := none, data := (.seq #[] 0), slots := #[] }
noncomputable def oe124 (P : Params) : Obj := { cls := .none, dict := none, data := (.func { name := (Str.ofString "_law_sign"), qualname := (Str.ofString "_law_sign"), params := fArgs 16, body := .stmts (fBody 16), scope := fScope 16, globals := 0, closure := [], defaults := .none, kwdefaults := .none, doc := .none, pyModule := .none, annotations := none, code := .none, closureTuple := .none, builtins := 0 }), slots := #[] }
noncomputable def oe125 (P : Params) : Obj := { cls := (.type "code"), dict := none, data := (.fields #[(.str (Str.ofString "_law_sign") 2308), (.str (Str.ofString "_law_sign") 2309), (.str (Str.ofString "/claim/cut.py") 2310), (.int 70 0), (.int 1 0), (.int 0 0), (.int 0 0), (.int 3 0), (.ref 120), (.bool true), (.int 181 0), (.ref 121), .none, (.ref 122), (.ref 123), (.ref 124), (.int 2313 0), (.int 70 0), (.str (Str.ofString "/claim/cut.py") 2314)]), slots := #[] }
noncomputable def oe126 (P : Params) : Obj := { cls := (.type "function"), dict := none, data := (.func { name := (Str.ofString "_law_sign"), qualname := (Str.ofString "_law_sign"), params := fArgs 16, body := .stmts (fBody 16), scope := fScope 16, globals := 3, closure := [], defaults := .none, kwdefaults := .none, doc := .none, pyModule := (.str (Str.ofString "law_rw0102_01") 2274), annotations := none, code := (.ref 125), closureTuple := .none, builtins := 0 }), slots := #[] }
noncomputable def oe127 (P : Params) : Obj := { cls := (.type "tuple"), dict := none, data := (.seq #[] 0), slots := #[] }
noncomputable def oe128 (P : Params) : Obj := { cls := .none, dict := none, data := (.fields #[]), slots := #[] }
noncomputable def oe129 (P : Params) : Obj := { cls := .none, dict := none, data := (.func { name := (Str.ofString "_law_typed"), qualname := (Str.ofString "_law_typed"), params := fArgs 17, body := .stmts (fBody 17), scope := fScope 17, globals := 0, closure := [], defaults := .none, kwdefaults := .none, doc := .none, pyModule := .none, annotations := none, code := .none, closureTuple := .none, builtins := 0 }), slots := #[] }
noncomputable def oe130 (P : Params) : Obj := { cls := (.type "code"), dict := none, data := (.fields #[(.str (Str.ofString "_law_typed") 2316), (.str (Str.ofString "_law_typed") 2317), (.str (Str.ofString "/claim/cut.py") 2318), (.int 75 0), (.int 2 0), (.int 0 0), (.int 0 0), (.int 3 0), (.ref 127), (.bool true), (.int 181 0), (.ref 128), .none, .none, .none, (.ref 129), (.int 2319 0), (.int 75 0), (.str (Str.ofString "/claim/cut.py") 2320)]), slots := #[] }
noncomputable def oe131 (P : Params) : Obj := { cls := (.type "function"), dict := none, data := (.func { name := (Str.ofString "_law_typed"), qualname := (Str.ofString "_law_typed"), params := fArgs 17, body := .stmts (fBody 17), scope := fScope 17, globals := 3, closure := [], defaults := .none, kwdefaults := .none, doc := .none, pyModule := (.str (Str.ofString "law_rw0102_01") 2274), annotations := none, code := (.ref 130), closureTuple := .none, builtins := 0 }), slots := #[] }
noncomputable def oe132 (P : Params) : Obj := { cls := (.type "tuple"), dict := none, data := (.seq #[] 0), slots := #[] }
noncomputable def oe133 (P : Params) : Obj := { cls := .none, dict := none, data := (.fields #[]), slots := #[] }
noncomputable def oe134 (P : Params) : Obj := { cls := (.type "tuple"), dict := none, data := (.seq #[(.str (Str.ofString "text") 2325), (.str (Str.ofString "kept") 2326), (.str (Str.ofString "sign") 2327)] 0), slots := #[] }
noncomputable def oe135 (P : Params) : Obj := { cls := (.type "tuple"), dict := none, data := (.seq #[] 0), slots := #[] }
noncomputable def oe136 (P : Params) : Obj := { cls := .none, dict := none, data := (.func { name := (Str.ofString "_law_prepared"), qualname := (Str.ofString "_law_prepared"), params := fArgs 18, body := .stmts (fBody 18), scope := fScope 18, globals := 0, closure := [], defaults := .none, kwdefaults := .none, doc := .none, pyModule := .none, annotations := none, code := .none, closureTuple := .none, builtins := 0 }), slots := #[] }
noncomputable def oe137 (P : Params) : Obj := { cls := (.type "code"), dict := none, data := (.fields #[(.str (Str.ofString "_law_prepared") 2322), (.str (Str.ofString "_law_prepared") 2323), (.str (Str.ofString "/claim/cut.py") 2324), (.int 82 0), (.int 1 0), (.int 0 0), (.int 0 0), (.int 3 0), (.ref 132), (.bool true), (.int 181 0), (.ref 133), .none, (.ref 134), (.ref 135), (.ref 136), (.int 2328 0), (.int 82 0), (.str (Str.ofString "/claim/cut.py") 2329)]), slots := #[] }
noncomputable def oe138 (P : Params) : Obj := { cls := (.type "function"), dict := none, data := (.func { name := (Str.ofString "_law_prepared"), qualname := (Str.ofString "_law_prepared"), params := fArgs 18, body := .stmts (fBody 18), scope := fScope 18, globals := 3, closure := [], defaults := .none, kwdefaults := .none, doc := .none, pyModule := (.str (Str.ofString "law_rw0102_01") 2274), annotations := none, code := (.ref 137), closureTuple := .none, builtins := 0 }), slots := #[] }
noncomputable def oe139 (P : Params) : Obj := { cls := (.type "tuple"), dict := none, data := (.seq #[] 0), slots := #[] }
noncomputable def oe140 (P : Params) : Obj := { cls := .none, dict := none, data := (.fields #[]), slots := #[] }
noncomputable def oe141 (P : Params) : Obj := { cls := (.type "tuple"), dict := none, data := (.seq #[(.str (Str.ofString "sums") 2334), (.str (Str.ofString "left") 2335), (.str (Str.ofString "k") 2336), (.str (Str.ofString "flags") 2337)] 0), slots := #[] }
noncomputable def oe142 (P : Params) : Obj := { cls := (.type "tuple"), dict := none, data := (.seq #[] 0), slots := #[] }
noncomputable def oe143 (P : Params) : Obj := { cls := .none, dict := none, data := (.func { name := (Str.ofString "_law_undone"), qualname := (Str.ofString "_law_undone"), params := fArgs 19, body := .stmts (fBody 19), scope := fScope 19, globals := 0, closure := [], defaults := .none, kwdefaults := .none, doc := .none, pyModule := .none, annotations := none, code := .none, closureTuple := .none, builtins := 0 }), slots := #[] }
noncomputable def oe144 (P : Params) : Obj := { cls := (.type "code"), dict := none, data := (.fields #[(.str (Str.ofString "_law_undone") 2331), (.str (Str.ofString "_law_undone") 2332), (.str (Str.ofString "/claim/cut.py") 2333), (.int 88 0), (.int 1 0), (.int 0 0), (.int 0 0), (.int 3 0), (.ref 139), (.bool true), (.int 181 0), (.ref 140), .none, (.ref 141), (.ref 142), (.ref 143), (.int 2338 0), (.int 88 0), (.str (Str.ofString "/claim/cut.py") 2339)]), slots := #[] }
noncomputable def oe145 (P : Params) : Obj := { cls := (.type "function"), dict := none, data := (.func { name := (Str.ofString "_law_undone"), qualname := (Str.ofString "_law_undone"), params := fArgs 19, body := .stmts (fBody 19), scope := fScope 19, globals := 3, closure := [], defaults := .none, kwdefaults := .none, doc := .none, pyModule := (.str (Str.ofString "law_rw0102_01") 2274), annotations := none, code := (.ref 144), closureTuple := .none, builtins := 0 }), slots := #[] }
noncomputable def oe146 (P : Params) : Obj := { cls := (.type "tuple"), dict := none, data := (.seq #[] 0), slots := #[] }
noncomputable def oe147 (P : Params) : Obj := { cls := .none, dict := none, data := (.fields #[]), slots := #[] }
noncomputable def oe148 (P : Params) : Obj := { cls := (.type "tuple"), dict := none, data := (.seq #[(.str (Str.ofString "x") 2344), (.str (Str.ofString "rises") 2345)] 0), slots := #[] }
noncomputable def oe149 (P : Params) : Obj := { cls := (.type "tuple"), dict := none, data := (.seq #[] 0), slots := #[] }
noncomputable def oe150 (P : Params) : Obj := { cls := .none, dict := none, data := (.func { name := (Str.ofString "_law_meant"), qualname := (Str.ofString "_law_meant"), params := fArgs 20, body := .stmts (fBody 20), scope := fScope 20, globals := 0, closure := [], defaults := .none, kwdefaults := .none, doc := .none, pyModule := .none, annotations := none, code := .none, closureTuple := .none, builtins := 0 }), slots := #[] }
noncomputable def oe151 (P : Params) : Obj := { cls := (.type "code"), dict := none, data := (.fields #[(.str (Str.ofString "_law_meant") 2341), (.str (Str.ofString "_law_meant") 2342), (.str (Str.ofString "/claim/cut.py") 2343), (.int 95 0), (.int 1 0), (.int 0 0), (.int 0 0), (.int 3 0), (.ref 146), (.bool true), (.int 181 0), (.ref 147), .none, (.ref 148), (.ref 149), (.ref 150), (.int 2346 0), (.int 95 0), (.str (Str.ofString "/claim/cut.py") 2347)]), slots := #[] }
noncomputable def oe152 (P : Params) : Obj := { cls := (.type "function"), dict := none, data := (.func { name := (Str.ofString "_law_meant"), qualname := (Str.ofString "_law_meant"), params := fArgs 20, body := .stmts (fBody 20), scope := fScope 20, globals := 3, closure := [], defaults := .none, kwdefaults := .none, doc := .none, pyModule := (.str (Str.ofString "law_rw0102_01") 2274), annotations := none, code := (.ref 151), closureTuple := .none, builtins := 0 }), slots := #[] }
noncomputable def oe153 (P : Params) : Obj := { cls := (.type "tuple"), dict := none, data := (.seq #[] 0), slots := #[] }
noncomputable def oe154 (P : Params) : Obj := { cls := .none, dict := none, data := (.fields #[]), slots := #[] }
noncomputable def oe155 (P : Params) : Obj := { cls := .none, dict := none, data := (.func { name := (Str.ofString "law"), qualname := (Str.ofString "law"), params := fArgs 21, body := .stmts (fBody 21), scope := fScope 21, globals := 0, closure := [], defaults := .none, kwdefaults := .none, doc := .none, pyModule := .none, annotations := none, code := .none, closureTuple := .none, builtins := 0 }), slots := #[] }
noncomputable def oe156 (P : Params) : Obj := { cls := (.type "code"), dict := none, data := (.fields #[(.str (Str.ofString "law") 2349), (.str (Str.ofString "law") 2350), (.str (Str.ofString "/claim/cut.py") 2351), (.int 98 0), (.int 1 0), (.int 0 0), (.int 0 0), (.int 3 0), (.ref 153), (.bool true), (.int 181 0), (.ref 154), .none, .none, .none, (.ref 155), (.int 2352 0), (.int 98 0), (.str (Str.ofString "/claim/cut.py") 2353)]), slots := #[] }
noncomputable def oe157 (P : Params) : Obj := { cls := (.type "function"), dict := none, data := (.func { name := (Str.ofString "law"), qualname := (Str.ofString "law"), params := fArgs 21, body := .stmts (fBody 21), scope := fScope 21, globals := 3, closure := [], defaults := .none, kwdefaults := .none, doc := .none, pyModule := (.str (Str.ofString "law_rw0102_01") 2274), annotations := none, code := (.ref 156), closureTuple := .none, builtins := 0 }), slots := #[] }
noncomputable def Td (P : Params) : BT := (.node (boot_o_0 P) (.node (boot_o_1 P) (.node (od3 P) (.node (boot_o_7 P) (.node (oa15 P) (.node (oa31 P) (.node (od63 P) .nil .nil) .nil) (.node (od47 P) .nil .nil)) (.node (oa23 P) (.node (od39 P) (.node (od71 P) .nil .nil) .nil) (.node (od55 P) .nil .nil))) (.node (ob11 P) (.node (oa19 P) (.node (od35 P) (.node (od67 P) .nil .nil) .nil) (.node (od51 P) .nil .nil)) (.node (oa27 P) (.node (od43 P) .nil .nil) (.node (od59 P) .nil .nil)))) (.node (boot_o_5 P) (.node (boot_o_9 P) (.node (oa17 P) (.node (od33 P) (.node (od65 P) .nil .nil) .nil) (.node (od49 P) .nil .nil)) (.node (oa25 P) (.node (od41 P) .nil .nil) (.node (od57 P) .nil .nil))) (.node (ob13 P) (.node (oa21 P) (.node (od37 P) (.node (od69 P) .nil .nil) .nil) (.node (od53 P) .nil .nil)) (.node (oa29 P) (.node (od45 P) .nil .nil) (.node (od61 P) .nil .nil))))) (.node (boot_o_2 P) (.node (boot_o_4 P) (.node (boot_o_8 P) (.node (oa16 P) (.node (oa32 P) (.node (od64 P) .nil .nil) .nil) (.node (od48 P) .nil .nil)) (.node (oa24 P) (.node (od40 P) .nil .nil) (.node (od56 P) .nil .nil))) (.node (oa12 P) (.node (oa20 P) (.node (od36 P) (.node (od68 P) .nil .nil) .nil) (.node (od52 P) .nil .nil)) (.node (oa28 P) (.node (od44 P) .nil .nil) (.node (od60 P) .nil .nil)))) (.node (boot_o_6 P) (.node (boot_o_10 P) (.node (oa18 P) (.node (od34 P) (.node (od66 P) .nil .nil) .nil) (.node (od50 P) .nil .nil)) (.node (oa26 P) (.node (od42 P) .nil .nil) (.node (od58 P) .nil .nil))) (.node (ob14 P) (.node (oa22 P) (.node (od38 P) (.node (od70 P) .nil .nil) .nil) (.node (od54 P) .nil .nil)) (.node (oa30 P) (.node (od46 P) .nil .nil) (.node (od62 P) .nil .nil))))))
noncomputable abbrev Sd (w : World) (os : OsState) : SharedT := ⟨Td w.params, 72, {}, ⟨[]⟩, ⟨0, 0, 0, 0⟩, 2207, os⟩
noncomputable def Tm (P : Params) : BT := (.node (boot_o_0 P) (.node (boot_o_1 P) (.node (om3 P) (.node (boot_o_7 P) (.node (oa15 P) (.node (oa31 P) (.node (od63 P) .nil .nil) .nil) (.node (od47 P) (.node (om79 P) .nil .nil) .nil)) (.node (oa23 P) (.node (od39 P) (.node (od71 P) .nil .nil) .nil) (.node (od55 P) (.node (om87 P) .nil .nil) .nil))) (.node (ob11 P) (.node (oa19 P) (.node (od35 P) (.node (od67 P) .nil .nil) .nil) (.node (od51 P) (.node (om83 P) .nil .nil) .nil)) (.node (oa27 P) (.node (od43 P) (.node (om75 P) .nil .nil) .nil) (.node (od59 P) (.node (om91 P) .nil .nil) .nil)))) (.node (boot_o_5 P) (.node (boot_o_9 P) (.node (oa17 P) (.node (od33 P) (.node (od65 P) .nil .nil) .nil) (.node (od49 P) (.node (om81 P) .nil .nil) .nil)) (.node (oa25 P) (.node (od41 P) (.node (om73 P) .nil .nil) .nil) (.node (od57 P) (.node (om89 P) .nil .nil) .nil))) (.node (ob13 P) (.node (oa21 P) (.node (od37 P) (.node (od69 P) .nil .nil) .nil) (.node (od53 P) (.node (om85 P) .nil .nil) .nil)) (.node (oa29 P) (.node (od45 P) (.node (om77 P) .nil .nil) .nil) (.node (od61 P) (.node (om93 P) .nil .nil) .nil))))) (.node (boot_o_2 P) (.node (boot_o_4 P) (.node (boot_o_8 P) (.node (oa16 P) (.node (oa32 P) (.node (od64 P) .nil .nil) .nil) (.node (od48 P) (.node (om80 P) .nil .nil) .nil)) (.node (oa24 P) (.node (od40 P) (.node (om72 P) .nil .nil) .nil) (.node (od56 P) (.node (om88 P) .nil .nil) .nil))) (.node (om12 P) (.node (oa20 P) (.node (od36 P) (.node (od68 P) .nil .nil) .nil) (.node (od52 P) (.node (om84 P) .nil .nil) .nil)) (.node (oa28 P) (.node (od44 P) (.node (om76 P) .nil .nil) .nil) (.node (od60 P) (.node (om92 P) .nil .nil) .nil)))) (.node (boot_o_6 P) (.node (boot_o_10 P) (.node (oa18 P) (.node (od34 P) (.node (od66 P) .nil .nil) .nil) (.node (od50 P) (.node (om82 P) .nil .nil) .nil)) (.node (oa26 P) (.node (od42 P) (.node (om74 P) .nil .nil) .nil) (.node (od58 P) (.node (om90 P) .nil .nil) .nil))) (.node (ob14 P) (.node (oa22 P) (.node (od38 P) (.node (od70 P) .nil .nil) .nil) (.node (od54 P) (.node (om86 P) .nil .nil) .nil)) (.node (oa30 P) (.node (od46 P) (.node (om78 P) .nil .nil) .nil) (.node (od62 P) .nil .nil))))))
noncomputable abbrev Sm (w : World) (os : OsState) : SharedT := ⟨Tm w.params, 94, {}, ⟨[]⟩, ⟨0, 0, 0, 0⟩, 2276, os⟩
noncomputable def Te (P : Params) : BT := (.node (boot_o_0 P) (.node (boot_o_1 P) (.node (oe3 P) (.node (boot_o_7 P) (.node (oa15 P) (.node (oa31 P) (.node (od63 P) (.node (oe127 P) .nil .nil) .nil) (.node (oe95 P) .nil .nil)) (.node (od47 P) (.node (om79 P) (.node (oe143 P) .nil .nil) .nil) (.node (oe111 P) .nil .nil))) (.node (oa23 P) (.node (od39 P) (.node (od71 P) (.node (oe135 P) .nil .nil) .nil) (.node (oe103 P) .nil .nil)) (.node (od55 P) (.node (om87 P) (.node (oe151 P) .nil .nil) .nil) (.node (oe119 P) .nil .nil)))) (.node (ob11 P) (.node (oa19 P) (.node (od35 P) (.node (od67 P) (.node (oe131 P) .nil .nil) .nil) (.node (oe99 P) .nil .nil)) (.node (od51 P) (.node (om83 P) (.node (oe147 P) .nil .nil) .nil) (.node (oe115 P) .nil .nil))) (.node (oa27 P) (.node (od43 P) (.node (om75 P) (.node (oe139 P) .nil .nil) .nil) (.node (oe107 P) .nil .nil)) (.node (od59 P) (.node (om91 P) (.node (oe155 P) .nil .nil) .nil) (.node (oe123 P) .nil .nil))))) (.node (boot_o_5 P) (.node (boot_o_9 P) (.node (oa17 P) (.node (od33 P) (.node (od65 P) (.node (oe129 P) .nil .nil) .nil) (.node (oe97 P) .nil .nil)) (.node (od49 P) (.node (om81 P) (.node (oe145 P) .nil .nil) .nil) (.node (oe113 P) .nil .nil))) (.node (oa25 P) (.node (od41 P) (.node (om73 P) (.node (oe137 P) .nil .nil) .nil) (.node (oe105 P) .nil .nil)) (.node (od57 P) (.node (om89 P) (.node (oe153 P) .nil .nil) .nil) (.node (oe121 P) .nil .nil)))) (.node (ob13 P) (.node (oa21 P) (.node (od37 P) (.node (od69 P) (.node (oe133 P) .nil .nil) .nil) (.node (oe101 P) .nil .nil)) (.node (od53 P) (.node (om85 P) (.node (oe149 P) .nil .nil) .nil) (.node (oe117 P) .nil .nil))) (.node (oa29 P) (.node (od45 P) (.node (om77 P) (.node (oe141 P) .nil .nil) .nil) (.node (oe109 P) .nil .nil)) (.node (od61 P) (.node (om93 P) (.node (oe157 P) .nil .nil) .nil) (.node (oe125 P) .nil .nil)))))) (.node (boot_o_2 P) (.node (boot_o_4 P) (.node (boot_o_8 P) (.node (oa16 P) (.node (oa32 P) (.node (od64 P) (.node (oe128 P) .nil .nil) .nil) (.node (oe96 P) .nil .nil)) (.node (od48 P) (.node (om80 P) (.node (oe144 P) .nil .nil) .nil) (.node (oe112 P) .nil .nil))) (.node (oa24 P) (.node (od40 P) (.node (om72 P) (.node (oe136 P) .nil .nil) .nil) (.node (oe104 P) .nil .nil)) (.node (od56 P) (.node (om88 P) (.node (oe152 P) .nil .nil) .nil) (.node (oe120 P) .nil .nil)))) (.node (oe12 P) (.node (oa20 P) (.node (od36 P) (.node (od68 P) (.node (oe132 P) .nil .nil) .nil) (.node (oe100 P) .nil .nil)) (.node (od52 P) (.node (om84 P) (.node (oe148 P) .nil .nil) .nil) (.node (oe116 P) .nil .nil))) (.node (oa28 P) (.node (od44 P) (.node (om76 P) (.node (oe140 P) .nil .nil) .nil) (.node (oe108 P) .nil .nil)) (.node (od60 P) (.node (om92 P) (.node (oe156 P) .nil .nil) .nil) (.node (oe124 P) .nil .nil))))) (.node (boot_o_6 P) (.node (boot_o_10 P) (.node (oa18 P) (.node (od34 P) (.node (od66 P) (.node (oe130 P) .nil .nil) .nil) (.node (oe98 P) .nil .nil)) (.node (od50 P) (.node (om82 P) (.node (oe146 P) .nil .nil) .nil) (.node (oe114 P) .nil .nil))) (.node (oa26 P) (.node (od42 P) (.node (om74 P) (.node (oe138 P) .nil .nil) .nil) (.node (oe106 P) .nil .nil)) (.node (od58 P) (.node (om90 P) (.node (oe154 P) .nil .nil) .nil) (.node (oe122 P) .nil .nil)))) (.node (ob14 P) (.node (oa22 P) (.node (od38 P) (.node (od70 P) (.node (oe134 P) .nil .nil) .nil) (.node (oe102 P) .nil .nil)) (.node (od54 P) (.node (om86 P) (.node (oe150 P) .nil .nil) .nil) (.node (oe118 P) .nil .nil))) (.node (oa30 P) (.node (od46 P) (.node (om78 P) (.node (oe142 P) .nil .nil) .nil) (.node (oe110 P) .nil .nil)) (.node (od62 P) (.node (oe94 P) .nil .nil) (.node (oe126 P) .nil .nil)))))))
noncomputable abbrev Se (w : World) (os : OsState) : SharedT := ⟨Te w.params, 158, {}, ⟨[]⟩, ⟨0, 0, 0, 0⟩, 2355, os⟩
noncomputable abbrev ST (w : World) (os : OsState) : SharedT := ⟨TTlast w.params, 72, {}, ⟨[]⟩, ⟨0, 0, 0, 0⟩, 2206, os⟩
theorem pcM (w : World) : ∀ os : OsState, segRunT treeTable pw w 11 ann 1 273 (Sd w os) (piecesOf stsM env cE ⟨5, 0, 5, 13⟩ fB) = some (.next, Sm w os, cE, ⟨55, 0, 55, 8⟩) := by
  rw [PySem.W.Fast.te10110043849684766642, PySem.W.Fast.te14364793385576792824]
  refine byRow2 "special-get-raises" (P := fun w => ∀ os : OsState, PySem.W.Fast.tw10110043849684766642 PySem.W.Fast.tw14364793385576792824 pw w 11 ann 1 273 (Sd w os) (piecesOf stsM env cE ⟨5, 0, 5, 13⟩ fB) = some (.next, Sm w os, cE, ⟨55, 0, 55, 8⟩)) ?_ ?_ w
  · intro w os
    kernel_rfl
  · intro w os
    kernel_rfl
theorem pcE (w : World) (os : OsState) : segRunT treeTable pw w 11 ann 1 294 (Sm w os) (piecesOf stsE env cE ⟨55, 0, 55, 8⟩ fB) = some (.next, Se w os, cE, ⟨98, 0, 111, 75⟩) := by
  rw [PySem.W.Fast.te10110043849684766642, PySem.W.Fast.te14364793385576792824]
  kernel_rfl
noncomputable abbrev p3 : Pos := ⟨5, 0, 5, 8704⟩
noncomputable abbrev pD : Pos := ⟨5, 16, 5, 8704⟩
noncomputable abbrev tg3 : List PySem.Expr := [.Name (Str.ofString "b3_exceptions") ⟨5, 0, 5, 13⟩]
theorem st3_eq : stN 3 = .Assign tg3 (.Dict b3Keys b3Vals pD) p3 := by kernel_rfl
noncomputable def tail3 (v : Value) : Sem Flow := do assignStores env v (← swappedStores tg3 (.Dict b3Keys b3Vals pD) env) ((assignEach tg3 env).map (·.2))
theorem exec3_eq : exec (.Assign tg3 (.Dict b3Keys b3Vals pD) p3) env = (do
    standAt p3
    let v ← (do standAt pD; dictDisplay ((evalEachOpt b3Keys env).zip ((evalEach b3Vals env).map fun v => do let x ← v; standAt pD; pure x)))
    tail3 v) := rfl
theorem eval3 (w : World) (os : OsState) (q : Pos) : G w 12516 (do standAt pD; dictDisplay ((evalEachOpt b3Keys env).zip ((evalEach b3Vals env).map fun v => do let x ← v; standAt pD; pure x)) : Sem Value) (Sa w os) q (.ref 33) (ST w os) pD := by
  rw [tabOf_items pD _ _ _ b3_tab]
  exact G.bind (n := 1) (k := 12515) (G.standAt pD) (display_run w.params)
theorem last3 (w : World) (os : OsState) : segRunT treeTable pw w 11 ann 1 8 (ST w os) ⟨(tail3 (.ref 33)).wrap (fun f => match f with | .next => (execs [] env).wrap doneF deadEnd id id | f => doneF f) deadEnd id id, cE, pD, fB⟩ = some (.next, Sd w os, cE, ⟨5, 0, 5, 13⟩) := by
  rw [PySem.W.Fast.te10110043849684766642, PySem.W.Fast.te14364793385576792824]
  kernel_rfl
theorem pcD (w : World) (os : OsState) : segRun treeTable pw w 11 ann 1 (12517 + 8) (Sa w os).abs (piecesOf stsD env cE ⟨3, 0, 4, 30⟩ fB) = some (.next, (Sd w os).abs, cE, ⟨5, 0, 5, 13⟩) := by
  refine seg_go (segGo_of (?_ : segGoT treeTable pw w 11 ann 1 12517 (Sa w os) (piecesOf stsD env cE ⟨3, 0, 4, 30⟩ fB) = some (ST w os, _))) (segRun_of (last3 w os))
  show segGoT treeTable pw w 11 ann 1 12517 (Sa w os) ⟨(execs (stN 3 :: []) env).wrap doneF deadEnd id id, cE, ⟨3, 0, 4, 30⟩, fB⟩ = _
  rw [execs_cons_wrap, st3_eq, exec3_eq, Sem.bind_eq_wrap', Sem.wrap_wrap]
  refine go_go (n := 1) (k := 12516) (G.standAt p3 _ _ _ _) ?_
  rw [Sem.bind_eq_wrap', Sem.wrap_wrap]
  exact eval3 w os p3 _ _ _ _

end
end Mine
namespace Mine
open PySem PySem.W PySem.Calls PyProof.Rows
noncomputable section
noncomputable def fArgsL2 : Arguments := by
  refine' (?f : ∀ x : Arguments, fArgs 2 = x → Arguments) _ ?h
  case h => (conv => lhs; whnf)
  exact fun x _ => x
noncomputable def fBodyL2 : List Stmt := by
  refine' (?f : ∀ x : List Stmt, fBody 2 = x → List Stmt) _ ?h
  case h => (conv => lhs; whnf)
  exact fun x _ => x
noncomputable def fScopeL2 : Scope := by
  refine' (?f : ∀ x : Scope, fScope 2 = x → Scope) _ ?h
  case h => (conv => lhs; whnf)
  exact fun x _ => x
theorem fArgs_2 : fArgs 2 = fArgsL2 := rfl
theorem fBody_2 : fBody 2 = fBodyL2 := rfl
theorem fScope_2 : fScope 2 = fScopeL2 := rfl
noncomputable def fArgsL4 : Arguments := by
  refine' (?f : ∀ x : Arguments, fArgs 4 = x → Arguments) _ ?h
  case h => (conv => lhs; whnf)
  exact fun x _ => x
noncomputable def fBodyL4 : List Stmt := by
  refine' (?f : ∀ x : List Stmt, fBody 4 = x → List Stmt) _ ?h
  case h => (conv => lhs; whnf)
  exact fun x _ => x
noncomputable def fScopeL4 : Scope := by
  refine' (?f : ∀ x : Scope, fScope 4 = x → Scope) _ ?h
  case h => (conv => lhs; whnf)
  exact fun x _ => x
theorem fArgs_4 : fArgs 4 = fArgsL4 := rfl
theorem fBody_4 : fBody 4 = fBodyL4 := rfl
theorem fScope_4 : fScope 4 = fScopeL4 := rfl
noncomputable def fArgsL7 : Arguments := by
  refine' (?f : ∀ x : Arguments, fArgs 7 = x → Arguments) _ ?h
  case h => (conv => lhs; whnf)
  exact fun x _ => x
noncomputable def fBodyL7 : List Stmt := by
  refine' (?f : ∀ x : List Stmt, fBody 7 = x → List Stmt) _ ?h
  case h => (conv => lhs; whnf)
  exact fun x _ => x
noncomputable def fScopeL7 : Scope := by
  refine' (?f : ∀ x : Scope, fScope 7 = x → Scope) _ ?h
  case h => (conv => lhs; whnf)
  exact fun x _ => x
theorem fArgs_7 : fArgs 7 = fArgsL7 := rfl
theorem fBody_7 : fBody 7 = fBodyL7 := rfl
theorem fScope_7 : fScope 7 = fScopeL7 := rfl
noncomputable def fArgsL10 : Arguments := by
  refine' (?f : ∀ x : Arguments, fArgs 10 = x → Arguments) _ ?h
  case h => (conv => lhs; whnf)
  exact fun x _ => x
noncomputable def fBodyL10 : List Stmt := by
  refine' (?f : ∀ x : List Stmt, fBody 10 = x → List Stmt) _ ?h
  case h => (conv => lhs; whnf)
  exact fun x _ => x
noncomputable def fScopeL10 : Scope := by
  refine' (?f : ∀ x : Scope, fScope 10 = x → Scope) _ ?h
  case h => (conv => lhs; whnf)
  exact fun x _ => x
theorem fArgs_10 : fArgs 10 = fArgsL10 := rfl
theorem fBody_10 : fBody 10 = fBodyL10 := rfl
theorem fScope_10 : fScope 10 = fScopeL10 := rfl
noncomputable def fArgsL12 : Arguments := by
  refine' (?f : ∀ x : Arguments, fArgs 12 = x → Arguments) _ ?h
  case h => (conv => lhs; whnf)
  exact fun x _ => x
noncomputable def fBodyL12 : List Stmt := by
  refine' (?f : ∀ x : List Stmt, fBody 12 = x → List Stmt) _ ?h
  case h => (conv => lhs; whnf)
  exact fun x _ => x
noncomputable def fScopeL12 : Scope := by
  refine' (?f : ∀ x : Scope, fScope 12 = x → Scope) _ ?h
  case h => (conv => lhs; whnf)
  exact fun x _ => x
theorem fArgs_12 : fArgs 12 = fArgsL12 := rfl
theorem fBody_12 : fBody 12 = fBodyL12 := rfl
theorem fScope_12 : fScope 12 = fScopeL12 := rfl
noncomputable def fArgsL13 : Arguments := by
  refine' (?f : ∀ x : Arguments, fArgs 13 = x → Arguments) _ ?h
  case h => (conv => lhs; whnf)
  exact fun x _ => x
noncomputable def fBodyL13 : List Stmt := by
  refine' (?f : ∀ x : List Stmt, fBody 13 = x → List Stmt) _ ?h
  case h => (conv => lhs; whnf)
  exact fun x _ => x
noncomputable def fScopeL13 : Scope := by
  refine' (?f : ∀ x : Scope, fScope 13 = x → Scope) _ ?h
  case h => (conv => lhs; whnf)
  exact fun x _ => x
theorem fArgs_13 : fArgs 13 = fArgsL13 := rfl
theorem fBody_13 : fBody 13 = fBodyL13 := rfl
theorem fScope_13 : fScope 13 = fScopeL13 := rfl
noncomputable def fArgsL14 : Arguments := by
  refine' (?f : ∀ x : Arguments, fArgs 14 = x → Arguments) _ ?h
  case h => (conv => lhs; whnf)
  exact fun x _ => x
noncomputable def fBodyL14 : List Stmt := by
  refine' (?f : ∀ x : List Stmt, fBody 14 = x → List Stmt) _ ?h
  case h => (conv => lhs; whnf)
  exact fun x _ => x
noncomputable def fScopeL14 : Scope := by
  refine' (?f : ∀ x : Scope, fScope 14 = x → Scope) _ ?h
  case h => (conv => lhs; whnf)
  exact fun x _ => x
theorem fArgs_14 : fArgs 14 = fArgsL14 := rfl
theorem fBody_14 : fBody 14 = fBodyL14 := rfl
theorem fScope_14 : fScope 14 = fScopeL14 := rfl
noncomputable def fArgsL15 : Arguments := by
  refine' (?f : ∀ x : Arguments, fArgs 15 = x → Arguments) _ ?h
  case h => (conv => lhs; whnf)
  exact fun x _ => x
noncomputable def fBodyL15 : List Stmt := by
  refine' (?f : ∀ x : List Stmt, fBody 15 = x → List Stmt) _ ?h
  case h => (conv => lhs; whnf)
  exact fun x _ => x
noncomputable def fScopeL15 : Scope := by
  refine' (?f : ∀ x : Scope, fScope 15 = x → Scope) _ ?h
  case h => (conv => lhs; whnf)
  exact fun x _ => x
theorem fArgs_15 : fArgs 15 = fArgsL15 := rfl
theorem fBody_15 : fBody 15 = fBodyL15 := rfl
theorem fScope_15 : fScope 15 = fScopeL15 := rfl
noncomputable def fArgsL16 : Arguments := by
  refine' (?f : ∀ x : Arguments, fArgs 16 = x → Arguments) _ ?h
  case h => (conv => lhs; whnf)
  exact fun x _ => x
noncomputable def fBodyL16 : List Stmt := by
  refine' (?f : ∀ x : List Stmt, fBody 16 = x → List Stmt) _ ?h
  case h => (conv => lhs; whnf)
  exact fun x _ => x
noncomputable def fScopeL16 : Scope := by
  refine' (?f : ∀ x : Scope, fScope 16 = x → Scope) _ ?h
  case h => (conv => lhs; whnf)
  exact fun x _ => x
theorem fArgs_16 : fArgs 16 = fArgsL16 := rfl
theorem fBody_16 : fBody 16 = fBodyL16 := rfl
theorem fScope_16 : fScope 16 = fScopeL16 := rfl
noncomputable def fArgsL17 : Arguments := by
  refine' (?f : ∀ x : Arguments, fArgs 17 = x → Arguments) _ ?h
  case h => (conv => lhs; whnf)
  exact fun x _ => x
noncomputable def fBodyL17 : List Stmt := by
  refine' (?f : ∀ x : List Stmt, fBody 17 = x → List Stmt) _ ?h
  case h => (conv => lhs; whnf)
  exact fun x _ => x
noncomputable def fScopeL17 : Scope := by
  refine' (?f : ∀ x : Scope, fScope 17 = x → Scope) _ ?h
  case h => (conv => lhs; whnf)
  exact fun x _ => x
theorem fArgs_17 : fArgs 17 = fArgsL17 := rfl
theorem fBody_17 : fBody 17 = fBodyL17 := rfl
theorem fScope_17 : fScope 17 = fScopeL17 := rfl
noncomputable def fArgsL18 : Arguments := by
  refine' (?f : ∀ x : Arguments, fArgs 18 = x → Arguments) _ ?h
  case h => (conv => lhs; whnf)
  exact fun x _ => x
noncomputable def fBodyL18 : List Stmt := by
  refine' (?f : ∀ x : List Stmt, fBody 18 = x → List Stmt) _ ?h
  case h => (conv => lhs; whnf)
  exact fun x _ => x
noncomputable def fScopeL18 : Scope := by
  refine' (?f : ∀ x : Scope, fScope 18 = x → Scope) _ ?h
  case h => (conv => lhs; whnf)
  exact fun x _ => x
theorem fArgs_18 : fArgs 18 = fArgsL18 := rfl
theorem fBody_18 : fBody 18 = fBodyL18 := rfl
theorem fScope_18 : fScope 18 = fScopeL18 := rfl
noncomputable def fArgsL19 : Arguments := by
  refine' (?f : ∀ x : Arguments, fArgs 19 = x → Arguments) _ ?h
  case h => (conv => lhs; whnf)
  exact fun x _ => x
noncomputable def fBodyL19 : List Stmt := by
  refine' (?f : ∀ x : List Stmt, fBody 19 = x → List Stmt) _ ?h
  case h => (conv => lhs; whnf)
  exact fun x _ => x
noncomputable def fScopeL19 : Scope := by
  refine' (?f : ∀ x : Scope, fScope 19 = x → Scope) _ ?h
  case h => (conv => lhs; whnf)
  exact fun x _ => x
theorem fArgs_19 : fArgs 19 = fArgsL19 := rfl
theorem fBody_19 : fBody 19 = fBodyL19 := rfl
theorem fScope_19 : fScope 19 = fScopeL19 := rfl
noncomputable def fArgsL20 : Arguments := by
  refine' (?f : ∀ x : Arguments, fArgs 20 = x → Arguments) _ ?h
  case h => (conv => lhs; whnf)
  exact fun x _ => x
noncomputable def fBodyL20 : List Stmt := by
  refine' (?f : ∀ x : List Stmt, fBody 20 = x → List Stmt) _ ?h
  case h => (conv => lhs; whnf)
  exact fun x _ => x
noncomputable def fScopeL20 : Scope := by
  refine' (?f : ∀ x : Scope, fScope 20 = x → Scope) _ ?h
  case h => (conv => lhs; whnf)
  exact fun x _ => x
theorem fArgs_20 : fArgs 20 = fArgsL20 := rfl
theorem fBody_20 : fBody 20 = fBodyL20 := rfl
theorem fScope_20 : fScope 20 = fScopeL20 := rfl
noncomputable def fArgsL21 : Arguments := by
  refine' (?f : ∀ x : Arguments, fArgs 21 = x → Arguments) _ ?h
  case h => (conv => lhs; whnf)
  exact fun x _ => x
noncomputable def fBodyL21 : List Stmt := by
  refine' (?f : ∀ x : List Stmt, fBody 21 = x → List Stmt) _ ?h
  case h => (conv => lhs; whnf)
  exact fun x _ => x
noncomputable def fScopeL21 : Scope := by
  refine' (?f : ∀ x : Scope, fScope 21 = x → Scope) _ ?h
  case h => (conv => lhs; whnf)
  exact fun x _ => x
theorem fArgs_21 : fArgs 21 = fArgsL21 := rfl
theorem fBody_21 : fBody 21 = fBodyL21 := rfl
theorem fScope_21 : fScope 21 = fScopeL21 := rfl
noncomputable def stL1 : Stmt := by
  refine' (?f : ∀ x : Stmt, stN 1 = x → Stmt) _ ?h
  case h => (conv => lhs; whnf)
  exact fun x _ => x
noncomputable def stL2 : Stmt := by
  refine' (?f : ∀ x : Stmt, stN 2 = x → Stmt) _ ?h
  case h => (conv => lhs; whnf)
  exact fun x _ => x
noncomputable def stL3 : Stmt := by
  refine' (?f : ∀ x : Stmt, stN 3 = x → Stmt) _ ?h
  case h => (conv => lhs; whnf)
  exact fun x _ => x
noncomputable def stL4 : Stmt := by
  refine' (?f : ∀ x : Stmt, stN 4 = x → Stmt) _ ?h
  case h => (conv => lhs; whnf)
  exact fun x _ => x
noncomputable def stL6 : Stmt := by
  refine' (?f : ∀ x : Stmt, stN 6 = x → Stmt) _ ?h
  case h => (conv => lhs; whnf)
  exact fun x _ => x
noncomputable def stL7 : Stmt := by
  refine' (?f : ∀ x : Stmt, stN 7 = x → Stmt) _ ?h
  case h => (conv => lhs; whnf)
  exact fun x _ => x
noncomputable def stL9 : Stmt := by
  refine' (?f : ∀ x : Stmt, stN 9 = x → Stmt) _ ?h
  case h => (conv => lhs; whnf)
  exact fun x _ => x
noncomputable def stL10 : Stmt := by
  refine' (?f : ∀ x : Stmt, stN 10 = x → Stmt) _ ?h
  case h => (conv => lhs; whnf)
  exact fun x _ => x
noncomputable def stL12 : Stmt := by
  refine' (?f : ∀ x : Stmt, stN 12 = x → Stmt) _ ?h
  case h => (conv => lhs; whnf)
  exact fun x _ => x
noncomputable def stL13 : Stmt := by
  refine' (?f : ∀ x : Stmt, stN 13 = x → Stmt) _ ?h
  case h => (conv => lhs; whnf)
  exact fun x _ => x
noncomputable def stL14 : Stmt := by
  refine' (?f : ∀ x : Stmt, stN 14 = x → Stmt) _ ?h
  case h => (conv => lhs; whnf)
  exact fun x _ => x
noncomputable def stL15 : Stmt := by
  refine' (?f : ∀ x : Stmt, stN 15 = x → Stmt) _ ?h
  case h => (conv => lhs; whnf)
  exact fun x _ => x
noncomputable def stL16 : Stmt := by
  refine' (?f : ∀ x : Stmt, stN 16 = x → Stmt) _ ?h
  case h => (conv => lhs; whnf)
  exact fun x _ => x
noncomputable def stL17 : Stmt := by
  refine' (?f : ∀ x : Stmt, stN 17 = x → Stmt) _ ?h
  case h => (conv => lhs; whnf)
  exact fun x _ => x
noncomputable def stL18 : Stmt := by
  refine' (?f : ∀ x : Stmt, stN 18 = x → Stmt) _ ?h
  case h => (conv => lhs; whnf)
  exact fun x _ => x
noncomputable def stL19 : Stmt := by
  refine' (?f : ∀ x : Stmt, stN 19 = x → Stmt) _ ?h
  case h => (conv => lhs; whnf)
  exact fun x _ => x
noncomputable def stL20 : Stmt := by
  refine' (?f : ∀ x : Stmt, stN 20 = x → Stmt) _ ?h
  case h => (conv => lhs; whnf)
  exact fun x _ => x
noncomputable def stL21 : Stmt := by
  refine' (?f : ∀ x : Stmt, stN 21 = x → Stmt) _ ?h
  case h => (conv => lhs; whnf)
  exact fun x _ => x
noncomputable def qBody : List Stmt := by
  refine' (?f : ∀ x : List Stmt, (stL1 :: stL2 :: stL3 :: stL4 :: stL6 :: stL7 :: stL9 :: stL10 :: stL12 :: stL13 :: stL14 :: stL15 :: stL16 :: stL17 :: stL18 :: stL19 :: stL20 :: stL21 :: [] : List Stmt) = x → List Stmt) _ ?h
  case h => (delta stL1 stL2 stL3 stL4 stL6 stL7 stL9 stL10 stL12 stL13 stL14 stL15 stL16 stL17 stL18 stL19 stL20 stL21; rfl)
  exact fun x _ => x
noncomputable def q : Program := by
  refine' (?f : ∀ x : Program, ({ pw with main := { pw.main with body := qBody } } : Program) = x → Program) _ ?h
  case h => (delta qBody; rfl)
  exact fun x _ => x
noncomputable def koa32 (P : Params) : Obj := { cls := (.type "function"), dict := none, data := (.func { name := (Str.ofString "in_table_b1"), qualname := (Str.ofString "in_table_b1"), params := fArgsL2, body := .stmts (fBodyL2), scope := fScopeL2, globals := 3, closure := [], defaults := .none, kwdefaults := .none, doc := .none, pyModule := (.str (Str.ofString "cpy313.stringprep") 187), annotations := none, code := (.ref 31), closureTuple := .none, builtins := 0 }), slots := #[] }
noncomputable def kom78 (P : Params) : Obj := { cls := (.type "function"), dict := none, data := (.func { name := (Str.ofString "map_table_b3"), qualname := (Str.ofString "map_table_b3"), params := fArgsL4, body := .stmts (fBodyL4), scope := fScopeL4, globals := 3, closure := [], defaults := .none, kwdefaults := .none, doc := .none, pyModule := (.str (Str.ofString "cpy313.stringprep") 187), annotations := none, code := (.ref 77), closureTuple := .none, builtins := 0 }), slots := #[] }
noncomputable def kom86 (P : Params) : Obj := { cls := (.type "function"), dict := none, data := (.func { name := (Str.ofString "pretty_flags"), qualname := (Str.ofString "pretty_flags"), params := fArgsL7, body := .stmts (fBodyL7), scope := fScopeL7, globals := 3, closure := [], defaults := .none, kwdefaults := .none, doc := .none, pyModule := (.str (Str.ofString "cpy313.dis") 2215), annotations := none, code := (.ref 85), closureTuple := .none, builtins := 0 }), slots := #[] }
noncomputable def kom93 (P : Params) : Obj := { cls := (.type "function"), dict := none, data := (.func { name := (Str.ofString "_ellipsis_match"), qualname := (Str.ofString "_ellipsis_match"), params := fArgsL10, body := .stmts (fBodyL10), scope := fScopeL10, globals := 3, closure := [], defaults := .none, kwdefaults := .none, doc := .none, pyModule := (.str (Str.ofString "cpy313.doctest") 2258), annotations := none, code := (.ref 92), closureTuple := .none, builtins := 0 }), slots := #[] }
noncomputable def koe100 (P : Params) : Obj := { cls := (.type "function"), dict := none, data := (.func { name := (Str.ofString "_law_drawn"), qualname := (Str.ofString "_law_drawn"), params := fArgsL12, body := .stmts (fBodyL12), scope := fScopeL12, globals := 3, closure := [], defaults := .none, kwdefaults := .none, doc := .none, pyModule := (.str (Str.ofString "law_rw0102_01") 2274), annotations := none, code := (.ref 99), closureTuple := .none, builtins := 0 }), slots := #[] }
noncomputable def koe107 (P : Params) : Obj := { cls := (.type "function"), dict := none, data := (.func { name := (Str.ofString "_law_word"), qualname := (Str.ofString "_law_word"), params := fArgsL13, body := .stmts (fBodyL13), scope := fScopeL13, globals := 3, closure := [], defaults := .none, kwdefaults := .none, doc := .none, pyModule := (.str (Str.ofString "law_rw0102_01") 2274), annotations := none, code := (.ref 106), closureTuple := .none, builtins := 0 }), slots := #[] }
noncomputable def koe112 (P : Params) : Obj := { cls := (.type "function"), dict := none, data := (.func { name := (Str.ofString "_law_members"), qualname := (Str.ofString "_law_members"), params := fArgsL14, body := .stmts (fBodyL14), scope := fScopeL14, globals := 3, closure := [], defaults := .none, kwdefaults := .none, doc := .none, pyModule := (.str (Str.ofString "law_rw0102_01") 2274), annotations := none, code := (.ref 111), closureTuple := .none, builtins := 0 }), slots := #[] }
noncomputable def koe119 (P : Params) : Obj := { cls := (.type "function"), dict := none, data := (.func { name := (Str.ofString "_law_letter"), qualname := (Str.ofString "_law_letter"), params := fArgsL15, body := .stmts (fBodyL15), scope := fScopeL15, globals := 3, closure := [], defaults := .none, kwdefaults := .none, doc := .none, pyModule := (.str (Str.ofString "law_rw0102_01") 2274), annotations := none, code := (.ref 118), closureTuple := .none, builtins := 0 }), slots := #[] }
noncomputable def koe126 (P : Params) : Obj := { cls := (.type "function"), dict := none, data := (.func { name := (Str.ofString "_law_sign"), qualname := (Str.ofString "_law_sign"), params := fArgsL16, body := .stmts (fBodyL16), scope := fScopeL16, globals := 3, closure := [], defaults := .none, kwdefaults := .none, doc := .none, pyModule := (.str (Str.ofString "law_rw0102_01") 2274), annotations := none, code := (.ref 125), closureTuple := .none, builtins := 0 }), slots := #[] }
noncomputable def koe131 (P : Params) : Obj := { cls := (.type "function"), dict := none, data := (.func { name := (Str.ofString "_law_typed"), qualname := (Str.ofString "_law_typed"), params := fArgsL17, body := .stmts (fBodyL17), scope := fScopeL17, globals := 3, closure := [], defaults := .none, kwdefaults := .none, doc := .none, pyModule := (.str (Str.ofString "law_rw0102_01") 2274), annotations := none, code := (.ref 130), closureTuple := .none, builtins := 0 }), slots := #[] }
noncomputable def koe138 (P : Params) : Obj := { cls := (.type "function"), dict := none, data := (.func { name := (Str.ofString "_law_prepared"), qualname := (Str.ofString "_law_prepared"), params := fArgsL18, body := .stmts (fBodyL18), scope := fScopeL18, globals := 3, closure := [], defaults := .none, kwdefaults := .none, doc := .none, pyModule := (.str (Str.ofString "law_rw0102_01") 2274), annotations := none, code := (.ref 137), closureTuple := .none, builtins := 0 }), slots := #[] }
noncomputable def koe145 (P : Params) : Obj := { cls := (.type "function"), dict := none, data := (.func { name := (Str.ofString "_law_undone"), qualname := (Str.ofString "_law_undone"), params := fArgsL19, body := .stmts (fBodyL19), scope := fScopeL19, globals := 3, closure := [], defaults := .none, kwdefaults := .none, doc := .none, pyModule := (.str (Str.ofString "law_rw0102_01") 2274), annotations := none, code := (.ref 144), closureTuple := .none, builtins := 0 }), slots := #[] }
noncomputable def koe152 (P : Params) : Obj := { cls := (.type "function"), dict := none, data := (.func { name := (Str.ofString "_law_meant"), qualname := (Str.ofString "_law_meant"), params := fArgsL20, body := .stmts (fBodyL20), scope := fScopeL20, globals := 3, closure := [], defaults := .none, kwdefaults := .none, doc := .none, pyModule := (.str (Str.ofString "law_rw0102_01") 2274), annotations := none, code := (.ref 151), closureTuple := .none, builtins := 0 }), slots := #[] }
noncomputable def koe157 (P : Params) : Obj := { cls := (.type "function"), dict := none, data := (.func { name := (Str.ofString "law"), qualname := (Str.ofString "law"), params := fArgsL21, body := .stmts (fBodyL21), scope := fScopeL21, globals := 3, closure := [], defaults := .none, kwdefaults := .none, doc := .none, pyModule := (.str (Str.ofString "law_rw0102_01") 2274), annotations := none, code := (.ref 156), closureTuple := .none, builtins := 0 }), slots := #[] }
noncomputable def K0 (P : Params) : Frag := (nat_lit 2, boot_o_2 P) :: (nat_lit 3, oe3 P) :: (nat_lit 6, boot_o_6 P) :: (nat_lit 22, oa22 P) :: (nat_lit 26, oa26 P) :: (nat_lit 28, oa28 P) :: (nat_lit 29, oa29 P) :: (nat_lit 31, oa31 P) :: (nat_lit 32, koa32 P) :: (nat_lit 33, od33 P) :: (nat_lit 72, om72 P) :: (nat_lit 74, om74 P) :: (nat_lit 75, om75 P) :: (nat_lit 77, om77 P) :: (nat_lit 78, kom78 P) :: (nat_lit 79, om79 P) :: (nat_lit 80, om80 P) :: (nat_lit 82, om82 P) :: (nat_lit 83, om83 P) :: (nat_lit 85, om85 P) :: (nat_lit 86, kom86 P) :: (nat_lit 87, om87 P) :: (nat_lit 89, om89 P) :: (nat_lit 90, om90 P) :: (nat_lit 92, om92 P) :: (nat_lit 93, kom93 P) :: (nat_lit 94, oe94 P) :: (nat_lit 96, oe96 P) :: (nat_lit 97, oe97 P) :: (nat_lit 99, oe99 P) :: (nat_lit 100, koe100 P) :: (nat_lit 101, oe101 P) :: (nat_lit 103, oe103 P) :: (nat_lit 104, oe104 P) :: (nat_lit 106, oe106 P) :: (nat_lit 107, koe107 P) :: (nat_lit 108, oe108 P) :: (nat_lit 111, oe111 P) :: (nat_lit 112, koe112 P) :: (nat_lit 113, oe113 P) :: (nat_lit 115, oe115 P) :: (nat_lit 116, oe116 P) :: (nat_lit 118, oe118 P) :: (nat_lit 119, koe119 P) :: (nat_lit 120, oe120 P) :: (nat_lit 122, oe122 P) :: (nat_lit 123, oe123 P) :: (nat_lit 125, oe125 P) :: (nat_lit 126, koe126 P) :: (nat_lit 127, oe127 P) :: (nat_lit 130, oe130 P) :: (nat_lit 131, koe131 P) :: (nat_lit 132, oe132 P) :: (nat_lit 134, oe134 P) :: (nat_lit 135, oe135 P) :: (nat_lit 137, oe137 P) :: (nat_lit 138, koe138 P) :: (nat_lit 139, oe139 P) :: (nat_lit 141, oe141 P) :: (nat_lit 142, oe142 P) :: (nat_lit 144, oe144 P) :: (nat_lit 145, koe145 P) :: (nat_lit 146, oe146 P) :: (nat_lit 148, oe148 P) :: (nat_lit 149, oe149 P) :: (nat_lit 151, oe151 P) :: (nat_lit 152, koe152 P) :: (nat_lit 153, oe153 P) :: (nat_lit 156, oe156 P) :: (nat_lit 157, koe157 P) :: []
set_option maxHeartbeats 4000000 in
noncomputable def KK (P : Params) : Frag := by
  refine' (?f : ∀ x : Frag, K0 P = x → Frag) _ ?h
  case h => (delta K0 boot_o_2 boot_o_6 koa32 koe100 koe107 koe112 koe119 koe126 koe131 koe138 koe145 koe152 koe157 kom78 kom86 kom93 oa22 oa26 oa28 oa29 oa31 od33 oe101 oe103 oe104 oe106 oe108 oe111 oe113 oe115 oe116 oe118 oe120 oe122 oe123 oe125 oe127 oe130 oe132 oe134 oe135 oe137 oe139 oe141 oe142 oe144 oe146 oe148 oe149 oe151 oe153 oe156 oe3 oe94 oe96 oe97 oe99 om72 om74 om75 om77 om79 om80 om82 om83 om85 om87 om89 om90 om92 es fArgsL2 fBodyL2 fScopeL2 fArgsL4 fBodyL4 fScopeL4 fArgsL7 fBodyL7 fScopeL7 fArgsL10 fBodyL10 fScopeL10 fArgsL12 fBodyL12 fScopeL12 fArgsL13 fBodyL13 fScopeL13 fArgsL14 fBodyL14 fScopeL14 fArgsL15 fBodyL15 fScopeL15 fArgsL16 fBodyL16 fScopeL16 fArgsL17 fBodyL17 fScopeL17 fArgsL18 fBodyL18 fScopeL18 fArgsL19 fBodyL19 fScopeL19 fArgsL20 fBodyL20 fScopeL20 fArgsL21 fBodyL21 fScopeL21; rfl)
  exact fun x _ => x
noncomputable def kAddrs : List Addr := nat_lit 2 :: nat_lit 3 :: nat_lit 6 :: nat_lit 22 :: nat_lit 26 :: nat_lit 28 :: nat_lit 29 :: nat_lit 31 :: nat_lit 32 :: nat_lit 33 :: nat_lit 72 :: nat_lit 74 :: nat_lit 75 :: nat_lit 77 :: nat_lit 78 :: nat_lit 79 :: nat_lit 80 :: nat_lit 82 :: nat_lit 83 :: nat_lit 85 :: nat_lit 86 :: nat_lit 87 :: nat_lit 89 :: nat_lit 90 :: nat_lit 92 :: nat_lit 93 :: nat_lit 94 :: nat_lit 96 :: nat_lit 97 :: nat_lit 99 :: nat_lit 100 :: nat_lit 101 :: nat_lit 103 :: nat_lit 104 :: nat_lit 106 :: nat_lit 107 :: nat_lit 108 :: nat_lit 111 :: nat_lit 112 :: nat_lit 113 :: nat_lit 115 :: nat_lit 116 :: nat_lit 118 :: nat_lit 119 :: nat_lit 120 :: nat_lit 122 :: nat_lit 123 :: nat_lit 125 :: nat_lit 126 :: nat_lit 127 :: nat_lit 130 :: nat_lit 131 :: nat_lit 132 :: nat_lit 134 :: nat_lit 135 :: nat_lit 137 :: nat_lit 138 :: nat_lit 139 :: nat_lit 141 :: nat_lit 142 :: nat_lit 144 :: nat_lit 145 :: nat_lit 146 :: nat_lit 148 :: nat_lit 149 :: nat_lit 151 :: nat_lit 152 :: nat_lit 153 :: nat_lit 156 :: nat_lit 157 :: []
theorem kAddrs_eq (P : Params) : kAddrs = (KK P).map (·.1) := by kernel_rfl
end
end Mine
namespace Mine
open PySem PySem.W PySem.Calls PyProof.Rows
noncomputable section
noncomputable abbrev lawR : OpenLaw := PySem.Challenge.rw_rw0102_01
noncomputable abbrev loose : List Str := [Str.ofString "b1_set", Str.ofString "b3_exceptions", Str.ofString "COMPILER_FLAG_NAMES"]
noncomputable abbrev Hk : Hook := kHook KK kAddrs kAddrs_eq
noncomputable abbrev Xt : Shared → Bool := fun s => xlAt q [] s && recOk (RowW.records lawR.row.toRowW) s
noncomputable def HE (P : Params) : Heap := absHeap (Te P) 158 {}
noncomputable abbrev sE (w : World) (os : OsState) : Shared := ⟨HE w.params, ⟨[]⟩, ⟨0, 0, 0, 0⟩, 2355, os⟩
noncomputable abbrev NN : Nat := 20000
theorem body_eq : stsA ++ (stsD ++ (stsM ++ (stsE ++ []))) = bE := by kernel_rfl
theorem fin (w : World) (os : OsState) : topRun treeTable pw w 11 ann 2 (sE w os) ⟨doneF .next, cE, ⟨98, 0, 111, 75⟩, fB⟩ = some (sE w os) := by kernel_rfl
theorem run (w : World) (os : OsState) : topRun treeTable pw w 11 ann (12 + (1 + (1037 + ((12517 + 8) + (273 + (294 + 2)))))) ⟨boot_heap w.params, ⟨[]⟩, boot_drawn, boot_toks, os⟩ (topStub pw) = some (sE w os) := by
  refine go_top (pre w os) ?_
  refine piece_block (block w os) ?_
  have e : restOf bE env cE ⟨0, 0, 0, 0⟩ fB = restOf (stsA ++ (stsD ++ (stsM ++ (stsE ++ [])))) env cE ⟨0, 0, 0, 0⟩ fB := congrArg (fun l => restOf l env cE ⟨0, 0, 0, 0⟩ fB) body_eq.symm
  rw [e]
  refine piece_app (segRun_of (pcA w os)) ?_
  refine piece_app (pcD w os) ?_
  refine piece_app (segRun_of (pcM w os)) ?_
  refine piece_app (segRun_of (pcE w os)) ?_
  exact fin w os
theorem opening_eq : opening pw = plainProg pw.main.scope.names := by kernel_rfl
theorem fence_eq (s : Shared) : fenceModules? pw s = some s := by kernel_rfl
theorem open_ : ∀ w : World, (fencedOpening treeTable pw w NN).map (fun s => (s.heap, s.gens, s.drawn, s.toks)) = some (boot_heap w.params, Array.mk [], boot_drawn, boot_toks) :=
  boot_open opening_eq (by decide) fence_eq
theorem size_ (w : World) : ((boot_heap w.params).isNs mainGlobals && (Array.mk [] : Array GenState).size == 0, (boot_heap w.params).objs.size, (boot_heap w.params).nsMap mainGlobals "__annotations__") = (true, 11, ann) := by
  kernel_rfl
end
end Mine
namespace Mine
open PySem PySem.W PySem.Calls PyProof.Rows
noncomputable section
theorem look1 (w : World) (os : OsState) : (staticsOk (importedModules pw.main.body) (boot_heap w.params) (HE w.params) && namesBound pw (HE w.params) && gensDone (sE w os) && laidKept (boot_heap w.params) (HE w.params)) = true := by
  kernel_rfl
theorem look3 (w : World) (os : OsState) : Hk.obs (sE w os) = Hk.val w := by kernel_rfl
end
end Mine
namespace Mine
open PySem PySem.W PySem.Calls PyProof.Rows
noncomputable section
noncomputable def b3P : List (PyData × PyData) := b3.map fun p => (.int p.1, .str p.2)
noncomputable abbrev nB3 : Str := Str.ofString "b3_exceptions"
theorem key_none (k : Int) (l : List (Int × Str)) (h : ∀ p ∈ l, p.1 ≠ k) : hasIntKey k (l.map fun p => (PyData.int p.1, PyData.str p.2)) = false := by
  induction l with
  | nil => rfl
  | cons p l ih =>
    show ((p.1 == k) || hasIntKey k _) = false
    rw [ih fun x hx => h x (List.mem_cons_of_mem _ hx), Bool.or_false]
    exact beq_eq_false_iff_ne.mpr (h p (List.mem_cons_self ..))
theorem apart_of (l : List (Int × Str)) (h : (l.map (·.1)).Nodup) : keysApartInt (l.map fun p => (PyData.int p.1, PyData.str p.2)) = true := by
  induction l with
  | nil => rfl
  | cons p l ih =>
    show (!hasIntKey p.1 _ && keysApartInt _) = true
    rw [List.map_cons, List.nodup_cons] at h
    rw [ih h.2, key_none p.1 l (fun x hx e => h.1 (List.mem_map.mpr ⟨x, hx, e⟩))]
    rfl
theorem b3_apart : keysApartInt b3P = true := apart_of b3 b3_nodup
theorem b3_at1 (w : World) (os : OsState) : (sE w os).heap.nsMap mainGlobals nB3 = some (.ref 33) := by kernel_rfl
theorem b3_at2 (w : World) (os : OsState) : (sE w os).heap.get? 33 = some b3O := by kernel_rfl
theorem b3_ent : entriesAreInt (entsFrom 256 (b3.take 646) ++ entsLast 2194 lastL) b3P = true := by kernel_rfl
theorem b3_tabOk (w : World) (os : OsState) : (sE w os).heap.tabIntOk nB3 b3P = true := by
  unfold Heap.tabIntOk
  rw [b3_at1 w os]
  dsimp only
  rw [b3_at2 w os]
  show ((("dict" : String) == "dict") && ((#[] : Array (Option Value)).size == 0) && entriesAreInt (entsFrom 256 (b3.take 646) ++ entsLast 2194 lastL) b3P && keysApartInt b3P && ((33 : Nat) != sysModules)) = true
  rw [b3_ent, b3_apart]
  rfl
theorem b3_of1 : tupIntsOf q nB3 = none := by kernel_rfl
theorem b3_of2 : tupStrsOf q nB3 = none := by kernel_rfl
theorem b3_of3 : tabIntOf q nB3 = some b3P := by kernel_rfl
theorem tabs_rest (w : World) (os : OsState) : ((valNames q).filter fun x => x != nB3).all (fun x =>
  (match tupIntsOf q x with | some ns => (sE w os).heap.tupIntsOk x ns | none => true) &&
  (match tupStrsOf q x with | some ss => (sE w os).heap.tupStrsOk x ss | none => true) &&
  (match tabIntOf q x with | some D => (sE w os).heap.tabIntOk x D | none => true)) = true := by kernel_rfl
theorem tabs_ok (w : World) (os : OsState) : tablesOk q (sE w os).heap = true := by
  unfold tablesOk
  rw [List.all_eq_true]
  intro x hx
  by_cases e : x = nB3
  · subst e
    rw [b3_of1, b3_of2, b3_of3]
    dsimp only
    rw [b3_tabOk w os]
    rfl
  · exact List.all_eq_true.mp (tabs_rest w os) x (List.mem_filter.mpr ⟨hx, bne_iff_ne.mpr e⟩)
theorem pair_eq {α β : Type} {a a' : α} {b b' : β} (h : a = a') (k : b = b') : (a, b) = (a', b') := by rw [h, k]
theorem and_tt {a b : Bool} (h : a = true) (k : b = true) : (a && b) = true := by rw [h, k]; rfl
theorem look2 (w : World) (os : OsState) : openSeen q loose (importedModules pw.main.body) Xt true (sE w os) = openGood q loose := by
  rw [PySem.W.Fast.te4187177175401517315]
  delta PySem.W.Fast.tw4187177175401517315 openGood
  refine pair_eq ?_ (pair_eq ?_ (pair_eq (and_tt (and_tt (and_tt ?_ ((congrFun (congrFun PySem.W.Fast.te10994771534591457954 q) _).symm.trans (tabs_ok w os))) ?_) ?_) (pair_eq ?_ ?_))) <;> kernel_rfl
end
end Mine
namespace Mine
open PySem PySem.W PySem.Calls PyProof.Rows
noncomputable section
theorem looks (w : World) : (fun os => ((staticsOk (importedModules pw.main.body) (boot_heap w.params) (HE w.params) && namesBound pw (HE w.params) && gensDone ⟨HE w.params, ⟨[]⟩, ⟨0, 0, 0, 0⟩, 2355, os⟩ && laidKept (boot_heap w.params) (HE w.params)),
    openSeen q loose (importedModules pw.main.body) Xt true ⟨HE w.params, ⟨[]⟩, ⟨0, 0, 0, 0⟩, 2355, os⟩, Hk.obs ⟨HE w.params, ⟨[]⟩, ⟨0, 0, 0, 0⟩, 2355, os⟩)) = fun _ => (true, openGood q loose, Hk.val w) :=
  funext fun os => looks_pair (look1 w os) (looks_pair (look2 w os) (look3 w os))
theorem left : LeftO pw q loose Xt Hk.obs Hk.val NN :=
  LeftO.of_pieces open_ size_ run (by decide) looks
/-! what the law says of itself -/
theorem wsA : (sreFenced pw.main && ((moduleNames pw.main.body).isEmpty || lookedIntoSs (moduleNames pw.main.body) pw.main.body)) = true := by kernel_rfl
theorem wsB : namesResolve pw = true := by kernel_rfl
theorem wsC : (pw.boundNames.all fun n => !worldNames.contains n) = true := by kernel_rfl
theorem wsD : noRoadLSs { strict := !(importedModules pw.main.body).all cThrough.contains, foot := none, bare := (["vars", "dir", "locals"] : List Str).filter (readsOut pw pw.main.body) } pw.main.body = true := by kernel_rfl
theorem wsE : (namesMeet pw pw.main.body fun _ n => attrL n) = true := by kernel_rfl
theorem wsF : looksOpen lawR.row.prog = true := and_tt (and_tt (and_tt (and_tt wsA wsB) wsC) wsD) wsE
theorem ws0 : lawR.row.wellSaid = true := by
  delta OpenRow.wellSaid OpenRow.partSaid
  simp only [Bool.and_eq_true]
  and_intros
  exact wsF
  all_goals kernel_rfl
theorem ws : lawR.wellSaid = true := by
  delta OpenLaw.wellSaid
  simp only [Bool.and_eq_true]
  and_intros
  exact ws0
  all_goals kernel_rfl
end
end Mine
namespace Mine
open PySem PySem.W PySem.Calls PyProof.Rows
noncomputable abbrev ch (n : Nat) : Str := ⟨#[n]⟩

/-! the set b1_set and the dict b3_exceptions, as the walk may read them -/
noncomputable def b1E : List (Int × Value) := match (oa22 (aWorld 1).params).data with | .set es _ _ => es.toList | _ => []
noncomputable def b1S (k : Int) : Bool := b1E.any fun e => Value.isInt k e.2
theorem b1E_ok : (b1E.all fun e => match e.2 with | .int i _ => e.1 == hashInt i | _ => false) = true := by kernel_rfl
theorem b1_set (prog : Program) (w : World) {P : Params} {h : Heap} (X : (KK P).In h) : h.SetOf (intKind prog w) 22 b1S 27 := by
  have ho : h.get? 22 = some (oa22 P) := X _ _ (by rfl)
  refine ⟨_, b1E.toArray, _, _, ho, ⟨rfl, rfl, rfl⟩, rfl, ?_, ?_, by decide, rfl, rfl⟩
  · intro e he
    have := List.all_eq_true.mp b1E_ok e he
    obtain ⟨h', v⟩ := e
    cases v <;> first | (cases this; done) | skip
    rename_i i t
    exact ⟨⟨i, by simp [intKind, Value.isInt], beq_iff_eq.mp this⟩, rfl⟩
  · intro k
    unfold b1S
    rw [List.any_eq_true]
    rfl
noncomputable def b3D : List (Int × PyData) := b3.map fun p => (p.1, .str p.2)
noncomputable def b3L : List DictEntry := entsFrom 256 (b3.take 646) ++ entsLast 2194 lastL
theorem b3_look : KTD.numsLook b3L b3D = true := by kernel_rfl
theorem b3D_keys : b3D.map (·.1) = b3.map (·.1) := by unfold b3D; rw [List.map_map]; rfl
theorem b3_keyed {P : Params} {h : Heap} (X : (KK P).In h) : KTD.Keyed h 33 b3D := fun prog w => by
  have ho : h.get? 33 = some b3O := X _ _ (by rfl)
  obtain ⟨hk, kvs, hp, hf, hm⟩ := KTD.nums_of_look prog w b3_look
  exact ⟨by decide, kvs, ⟨_, b3L.toArray, 650, ho, ⟨rfl, rfl, rfl⟩, rfl, fun e he => hk e (by simpa using he), hp, by rw [hm, b3D_keys]; exact b3_nodup⟩, hf⟩
end Mine
namespace Mine
open PySem PySem.W PySem.Calls PyProof.Rows PyProof.V

noncomputable def b3At (k : Int) : Option Str := match KTD.datumAt k b3D with | some (.str x) => some x | _ => none
noncomputable def b3F (cd : Nat) : Str := match b3At cd with | some x => x | none => PySem.Txt.lower (ch cd)
section
variable {prog : Program} {w : World} {A : Around} {E : Value → Shared → Prop} {s : Shared} {h₀ : Heap} {L : Addr} {m : Str → Option Value} {P : Params} {k : Int} {t : Tok}
theorem in_b1_rule {Q : Value → Shared → Prop} (F : Fr h₀ L s.heap m) (X₀ : (KK P).In h₀) (h : Q (.bool (b1S k)) { s with toks := s.toks + 1 }) :
    wpAny (model prog w) A (compareOp .In (.int k t) (.ref 22)) Q E s :=
  wpAny_inSet_of (knd := intKind prog w) (intKind_is _ _ _ _) rfl (b1_set prog w (X₀.keeps F.keep)) h
theorem b3_meth_rule {pl : Sem Bool} {Q : Value × List Value → Shared → Prop} (F : Fr h₀ L s.heap m) (X₀ : (KK P).In h₀) (h : Q (.builtin "dict.get", [.ref 33]) s) :
    wpAny (model prog w) A (getMethod (.ref 33) "get" pl) Q E s := KTD.getMethod_keyed (b3_keyed X₀) F.keep h
theorem datum_b3 (k : Int) : (KTD.datumAt k b3D = none ∧ b3At k = none) ∨ ∃ x, KTD.datumAt k b3D = some (.str x) ∧ b3At k = some x := by
  have key : ∀ l : List (Int × Str), (KTD.datumAt k (l.map fun p => (p.1, PyData.str p.2)) = none) ∨ ∃ x, KTD.datumAt k (l.map fun p => (p.1, PyData.str p.2)) = some (.str x) := by
    intro l
    induction l with
    | nil => exact .inl rfl
    | cons p l ih =>
      show (if decide (k = p.1) = true then some (PyData.str p.2) else KTD.datumAt k _) = none ∨ ∃ x, (if decide (k = p.1) = true then some (PyData.str p.2) else KTD.datumAt k _) = some (.str x)
      split
      · exact .inr ⟨_, rfl⟩
      · exact ih
  rcases key b3 with e | ⟨x, e⟩
  · left
    refine ⟨e, ?_⟩
    unfold b3At
    have e' : KTD.datumAt k b3D = none := e
    rw [e']
  · right
    refine ⟨x, e, ?_⟩
    unfold b3At
    have e' : KTD.datumAt k b3D = some (.str x) := e
    rw [e']
theorem b3_get_rule {Q : Value → Shared → Prop} (F : Fr h₀ L s.heap m) (X₀ : (KK P).In h₀) (h1 : ∀ x u, b3At k = some x → Q (.str x u) { s with toks := s.toks + 1 }) (h2 : b3At k = none → Q .none { s with toks := s.toks + 1 }) :
    wpAny (model prog w) A (call (.builtin "dict.get") [.ref 33, .int k t]) Q E s :=
  call_get1_intTab ((b3_keyed X₀).keep F.keep prog w) fun v hv => by
    rw [KTD.lookup_keyed] at hv
    rcases datum_b3 k with ⟨e, e'⟩ | ⟨x, e, e'⟩
    · rw [e] at hv
      have hv' : Flat v .none := hv
      rw [hv'.none_inv]
      exact h2 e'
    · rw [e] at hv
      have hv' : Flat v (.str x) := hv
      obtain ⟨u, rfl⟩ := hv'.str_inv
      exact h1 _ _ e'
end
local macro_rules | `(tactic| walk_at "compareOp In int ref") => `(tactic| (k_here; (with_reducible show wpAny _ _ (compareOp CmpOp.In (Value.int _ _) (Value.ref 22)) _ _ _); refine' in_b1_rule ?k1 ?k2 ?_; (case k1 => k_asm); (case k2 => k_asm)))
local macro_rules | `(tactic| walk_at "getMethod ref") => `(tactic| (k_here; (with_reducible show wpAny _ _ (getMethod (Value.ref 33) _ _) _ _ _); refine' b3_meth_rule ?k1 ?k2 ?_; (case k1 => k_asm); (case k2 => k_asm)))
local macro_rules | `(tactic| walk_at "call builtin:dict.get") => `(tactic| (k_here; (with_reducible show wpAny _ _ (call (Value.builtin "dict.get") [Value.ref 33, Value.int _ _]) _ _ _); refine' b3_get_rule ?k1 ?k2 ?_ ?_; (case k1 => k_asm); (case k2 => k_asm); all_goals intros))
local macro_rules | `(tactic| walk_at "call builtin:str.lower") => `(tactic| (k_here; (refine SCL.lower (Nat.le_of_ble_eq_true rfl) ?_); intro _))
set_option maxHeartbeats 0 in
theorem in_b1_ok (w : World) (p : Program) (loose : List Str) (mean : ExcName → Option Value) (mg mb : Str → Option Value) (news : List (Addr × Obj)) (cd : Nat) (t : Tok) : CbClaim pw w (KK w.params) p loose mean mg mb 32 news [] True [.str (ch cd) t] (fun _ => .bool (b1S cd)) := by
  suffices h : PySem.Challenge.rw_rw0102_01 = PySem.Challenge.rw_rw0102_01 → CbClaim pw w (KK w.params) p loose mean mg mb 32 news [] True [.str (ch cd) t] (fun _ => .bool (b1S cd)) from h rfl
  k_fill
  intro _
  dsimp only [CbClaim, CbLists, CbRet]
  intros
  rename_i hret
  refine wpAny_call ?_
  k_dflt cell_enter
  k_steps
  all_goals exact cb_retB hret rfl (by k_asm) (by k_asm)
set_option maxHeartbeats 0 in
theorem map_b3_ok (w : World) (p : Program) (loose : List Str) (mean : ExcName → Option Value) (mg mb : Str → Option Value) (news : List (Addr × Obj)) (cd : Nat) (t : Tok) : CbClaim pw w (KK w.params) p loose mean mg mb 78 news [] True [.str (ch cd) t] (fun t => .str (b3F cd) t) := by
  suffices h : PySem.Challenge.rw_rw0102_01 = PySem.Challenge.rw_rw0102_01 → CbClaim pw w (KK w.params) p loose mean mg mb 78 news [] True [.str (ch cd) t] (fun t => .str (b3F cd) t) from h rfl
  k_fill
  intro _
  dsimp only [CbClaim, CbLists, CbRet]
  intros
  rename_i hret
  refine wpAny_call ?_
  k_dflt cell_enter
  k_steps
  · rename_i hx _ _ _ _ _
    exact cb_retS hret (by unfold b3F; rw [(by assumption : b3At _ = some _)]) (by k_asm) (by k_asm)
  · exact cb_retS hret (by unfold b3F; rw [(by assumption : b3At _ = none)]) (by k_asm) (by k_asm)
end Mine
namespace Mine
open PySem PySem.W PySem.Calls PyProof.Rows PyProof.V
noncomputable def menu5 : List Int := [97, 65, 119808, 119860, 120224]
noncomputable def letF (cd : Nat) (n : Int) : Nat := if 97 ≤ cd ∧ cd ≤ 122 then (menu5.getD (n.fmod 5).toNat 0 + cd - 97).toNat else cd
theorem str_a : (Str.ofString "a").cps.toList = [97] := by decide +kernel
theorem str_z : (Str.ofString "z").cps.toList = [122] := by decide +kernel
theorem lt_one (a b : Nat) : ([a] : List Nat) < [b] ↔ a < b := by
  rw [List.cons_lt_cons_iff]; simp
theorem menu_lo (k : Int) : 65 ≤ menu5.getD (k.fmod 5).toNat 0 ∧ menu5.getD (k.fmod 5).toNat 0 ≤ 120224 := by
  have h0 : 0 ≤ k.fmod 5 := Int.fmod_nonneg_of_pos k (by decide)
  have h1 : k.fmod 5 < 5 := Int.fmod_lt_of_pos k (by decide)
  generalize k.fmod 5 = r at h0 h1
  have : r = 0 ∨ r = 1 ∨ r = 2 ∨ r = 3 ∨ r = 4 := by omega
  rcases this with rfl | rfl | rfl | rfl | rfl <;> decide
theorem ge_a {cd : Nat} (h : ¬ (ch cd).cps.toList < (Str.ofString "a").cps.toList) : 97 ≤ cd := by
  rw [str_a] at h; have := mt (lt_one cd 97).mpr h; omega
theorem le_z {cd : Nat} (h : ¬ (Str.ofString "z").cps.toList < (ch cd).cps.toList) : cd ≤ 122 := by
  rw [str_z] at h; have := mt (lt_one 122 cd).mpr h; omega
theorem lt_a {cd : Nat} (h : (ch cd).cps.toList < (Str.ofString "a").cps.toList) : cd < 97 := by
  rw [str_a] at h; exact (lt_one cd 97).mp h
theorem gt_z {cd : Nat} (h : (Str.ofString "z").cps.toList < (ch cd).cps.toList) : 122 < cd := by
  rw [str_z] at h; exact (lt_one 122 cd).mp h
theorem chr_lo {cd : Nat} {n : Int} (h1 : ¬ (ch cd).cps.toList < (Str.ofString "a").cps.toList) : 0 ≤ ([97, 65, 119808, 119860, 120224] : List Int).getD (n.fmod 5).toNat 0 + (((ch cd).cps.getD 0 0 : Nat) : Int) - 97 := by
  have a := menu_lo n
  have b := ge_a h1
  have e : (ch cd).cps.getD 0 0 = cd := rfl
  rw [e]
  unfold menu5 at a
  omega
theorem chr_hi {cd : Nat} {n : Int} (h2 : ¬ (Str.ofString "z").cps.toList < (ch cd).cps.toList) : ([97, 65, 119808, 119860, 120224] : List Int).getD (n.fmod 5).toNat 0 + (((ch cd).cps.getD 0 0 : Nat) : Int) - 97 ≤ 1114111 := by
  have a := menu_lo n
  have b := le_z h2
  have e : (ch cd).cps.getD 0 0 = cd := rfl
  rw [e]
  unfold menu5 at a
  omega
theorem letF_in {cd : Nat} {n : Int} (h1 : ¬ (ch cd).cps.toList < (Str.ofString "a").cps.toList) (h2 : ¬ (Str.ofString "z").cps.toList < (ch cd).cps.toList) :
    (⟨#[(([97, 65, 119808, 119860, 120224] : List Int).getD (n.fmod 5).toNat 0 + (((ch cd).cps.getD 0 0 : Nat) : Int) - 97).toNat]⟩ : Str) = ch (letF cd n) := by
  unfold letF
  rw [if_pos ⟨ge_a h1, le_z h2⟩]
  rfl
theorem letF_lo {cd : Nat} {n : Int} (h : (ch cd).cps.toList < (Str.ofString "a").cps.toList) : ch cd = ch (letF cd n) := by
  unfold letF
  rw [if_neg (by have := lt_a h; omega)]
theorem letF_hi {cd : Nat} {n : Int} (h : (Str.ofString "z").cps.toList < (ch cd).cps.toList) : ch cd = ch (letF cd n) := by
  unfold letF
  rw [if_neg (by have := gt_z h; omega)]
local macro_rules | `(tactic| walk_at "call builtin:chr") => `(tactic| (k_here; refine chr_of_range (chr_lo (by assumption)) (chr_hi (by assumption)) ?_))
set_option maxHeartbeats 0 in
theorem letter_ok (w : World) (p : Program) (loose : List Str) (mean : ExcName → Option Value) (mg mb : Str → Option Value) (news : List (Addr × Obj)) (cd : Nat) (t : Tok) (n : Int) (t' : Tok) : CbClaim pw w (KK w.params) p loose mean mg mb 119 news [] (True) [.str (ch cd) t, .int n t'] (fun t => .str (ch (letF cd n)) t) := by
  suffices h : PySem.Challenge.rw_rw0102_01 = PySem.Challenge.rw_rw0102_01 → CbClaim pw w (KK w.params) p loose mean mg mb 119 news [] (True) [.str (ch cd) t, .int n t'] (fun t => .str (ch (letF cd n)) t) from h rfl
  k_fill
  intro _
  dsimp only [CbClaim, CbLists, CbRet]
  intros
  rename_i hret
  refine wpAny_call ?_
  k_dflt cell_enter
  k_steps
  · exact cb_retS hret (letF_lo (by assumption)) (by k_asm) (by k_asm)
  · exact cb_retS hret (letF_hi (by assumption)) (by k_asm) (by k_asm)
  · refine cb_retS hret (letF_in (by assumption) (by assumption)) (by k_asm) (cb_drop (by k_asm) ?_)
    kcj_all
end Mine
namespace Mine
open PySem PySem.W PySem.Calls PyProof.Rows PyProof.V
noncomputable def okI (l : List Int) : Bool := l.all fun x => decide (0 ≤ x) && decide (x ≤ 1114111)
theorem okI_getD {l : List Int} (h : okI l = true) (i : Nat) : 0 ≤ l.getD i 0 ∧ l.getD i 0 ≤ 1114111 := by
  rw [List.getD_eq_getElem?_getD]
  cases e : l[i]? with
  | none => exact ⟨Int.le_refl _, by decide⟩
  | some x =>
    have := List.all_eq_true.mp h x (List.mem_of_getElem? e)
    rw [Bool.and_eq_true, decide_eq_true_eq, decide_eq_true_eq] at this
    exact this
section
variable {prog : Program} {w : World} {A : Around} {E : Value → Shared → Prop} {s : Shared}
theorem item_ints_rule {value slice : PySem.Expr} {l : Addr} {vs : List Value} {ns : List Int} {k : Int} {u : Tok} {Q : Value → Shared → Prop}
    (hl : s.heap.IsList l vs.toArray) (hi : IntsAre vs ns) (h0 : 0 ≤ k) (hk : k < ns.length) (hb : ns.length ≤ 1000) (h : ∀ u, Q (.int (ns.getD k.toNat 0) u) s)
    (hs : subscripted slice false (.ref l) (.int k u) = operate [.ref l, .int k u] (getItem (.ref l) (.int k u)) := by with_unfolding_all rfl) :
    wpAny (model prog w) A (subscriptTail value slice (.ref l) (.int k u)) Q E s := by
  have hlen := hi.length
  have hlt : k.toNat < vs.length := by omega
  obtain ⟨i, t, e, hv⟩ := IntsAre.at hi k.toNat (vs[k.toNat]) (by rw [List.getElem?_eq_getElem hlt])
  have e2 : vs[k.toNat]? = some (.int (ns.getD k.toNat 0) t) := by
    rw [List.getElem?_eq_getElem hlt, e, List.getD_eq_getElem?_getD, hv]; rfl
  exact tail_any hl.typeIs slot_list_getitem.lookup (wpAny_getItem_list hl h0 (by omega) (by simpa using e2) (h t)) hs
end
noncomputable def hiddenI : List Int := [173, 847, 6150, 6155, 6156, 6157, 8203, 8204, 8205, 8288, 65279] ++ rangeInts 65024 1 16
noncomputable def shown5 : List Int := [174, 846, 8202, 8206, 65040]
noncomputable def s81 (n : Int) : Int := (n.fdiv 32).fmod 81
noncomputable def signF (n : Int) : Nat := if 54 ≤ s81 n then (shown5.getD ((s81 n).fmod 5).toNat 0).toNat else (hiddenI.getD ((s81 n).fmod 27).toNat 0).toNat
local macro_rules | `(tactic| walk_at "call builtin:chr") => `(tactic| (k_here; refine chr_of_range (okI_getD (by decide) _).1 (okI_getD (by decide) _).2 ?_))
local macro_rules | `(tactic| walk_at "binaryOp Add ref ref") => `(tactic| (k_here; refine' add_arrays_ints ?F ?N ?a ?b ?i ?j ?_ ?z; (case F => assumption); (case N => assumption); (case a => is_list); (case b => assumption); (case i => l_ints); (case j => exact ints_of_carried (by assumption)); (case z => decide); intro h' F' N' hI'))
set_option maxHeartbeats 0 in
theorem sign_ok (w : World) (p : Program) (loose : List Str) (mean : ExcName → Option Value) (mg mb : Str → Option Value) (news : List (Addr × Obj)) (n : Int) (t : Tok) (hn : 0 ≤ n) : CbClaim pw w (KK w.params) p loose mean mg mb 126 news [] (True) [.int n t] (fun t => .str (ch (signF n)) t) := by
  suffices h : PySem.Challenge.rw_rw0102_01 = PySem.Challenge.rw_rw0102_01 → CbClaim pw w (KK w.params) p loose mean mg mb 126 news [] (True) [.int n t] (fun t => .str (ch (signF n)) t) from h rfl
  k_fill
  intro _
  dsimp only [CbClaim, CbLists, CbRet]
  intros
  rename_i hret
  refine wpAny_call ?_
  k_dflt cell_enter
  k_steps
  · refine cb_retS hret ?_ (by k_asm) (cb_drop (by k_asm) (by kcj_all))
    unfold signF s81
    rw [if_pos (by assumption)]
    rfl
  · refine cb_retS hret ?_ (by k_asm) (cb_drop (by k_asm) (by kcj_all))
    unfold signF s81
    rw [if_neg (by assumption)]
    rfl
noncomputable def meantF (n : Int) : Int := if ((n.fdiv 16).fmod 2 = 0 ∨ (([0, 1, 2, 4, 8] : List Int).any fun x => x == n.fmod 16) = true) ∧ (n.fdiv 32).fmod 81 < 54 then n.fmod 16 else 16
set_option maxHeartbeats 0 in
theorem meant_ok (w : World) (p : Program) (loose : List Str) (mean : ExcName → Option Value) (mg mb : Str → Option Value) (news : List (Addr × Obj)) (n : Int) (t : Tok) (hn : 0 ≤ n) : CbClaim pw w (KK w.params) p loose mean mg mb 152 news [] (True) [.int n t] (fun t => .int (meantF n) t) := by
  suffices h : PySem.Challenge.rw_rw0102_01 = PySem.Challenge.rw_rw0102_01 → CbClaim pw w (KK w.params) p loose mean mg mb 152 news [] (True) [.int n t] (fun t => .int (meantF n) t) from h rfl
  k_fill
  intro _
  dsimp only [CbClaim, CbLists, CbRet]
  intros
  rename_i hret
  refine wpAny_call ?_
  k_dflt cell_enter
  k_steps
  all_goals first
    | (exfalso; exact (by assumption : (n.fdiv 16).fmod 2 ≠ 0) (by assumption))
    | (refine cb_retI hret ?_ (by k_asm) (cb_drop (by k_asm) (by kcj_all)); unfold meantF; first
        | rw [if_pos ⟨.inl (by assumption), by assumption⟩]
        | rw [if_pos ⟨.inr (by assumption), by assumption⟩]
        | rw [if_neg (by simp_all)])
end Mine
namespace Mine
open PySem PySem.W PySem.Calls PyProof.Rows PyProof.V
theorem pow_small (n : Int) : ((2 : Int) ^ (n.fmod 4).toNat).natAbs.log2 < 1920 := by
  have h0 : 0 ≤ n.fmod 4 := Int.fmod_nonneg_of_pos n (by decide)
  have h1 : n.fmod 4 < 4 := Int.fmod_lt_of_pos n (by decide)
  generalize n.fmod 4 = r at h0 h1
  have : r = 0 ∨ r = 1 ∨ r = 2 ∨ r = 3 := by omega
  rcases this with rfl | rfl | rfl | rfl <;> decide +kernel
local macro_rules | `(tactic| walk_at "call type:str") => `(tactic| (k_here; refine P.str_of_int (pow_small _) ?_; (try dsimp only)))
theorem pow_len (n : Int) : (Str.ofString (toString ((2 : Int) ^ (n.fmod 4).toNat))).length ≤ 1 := by
  have h0 : 0 ≤ n.fmod 4 := Int.fmod_nonneg_of_pos n (by decide)
  have h1 : n.fmod 4 < 4 := Int.fmod_lt_of_pos n (by decide)
  generalize n.fmod 4 = r at h0 h1
  have : r = 0 ∨ r = 1 ∨ r = 2 ∨ r = 3 := by omega
  rcases this with rfl | rfl | rfl | rfl <;> decide +kernel
theorem len_0x : (Str.ofString "0x").length = 2 := by decide +kernel
theorem len_0 : (Str.ofString "0").length = 1 := by decide +kernel
theorem mul_len0 (n : Int) (h1 : n < 32) (h0 : 0 ≤ n) : (PySem.Txt.mul (Str.ofString "0") (n.fdiv 4)).length ≤ 8 := by
  rw [Int.fdiv_eq_ediv_of_nonneg n (by decide)]
  have : n / 4 = 0 ∨ n / 4 = 1 ∨ n / 4 = 2 ∨ n / 4 = 3 ∨ n / 4 = 4 ∨ n / 4 = 5 ∨ n / 4 = 6 ∨ n / 4 = 7 := by omega
  rcases this with e | e | e | e | e | e | e | e <;> rw [e] <;> decide +kernel
noncomputable def wordsL : List Str := [Str.ofString "optimized", Str.ofString "newlocals", Str.ofString "varargs", Str.ofString "varkeywords", Str.ofString "nested", Str.ofString "generator", Str.ofString "nofree", Str.ofString "coroutine", Str.ofString "iterable_coroutine", Str.ofString "async_generator"]
noncomputable def wordF (n : Int) : Str := if n < 10 then wordsL.getD n.toNat Str.empty else Str.ofString "0x" ++ Str.ofString (toString ((2 : Int) ^ (n.fmod 4).toNat)) ++ PySem.Txt.mul (Str.ofString "0") (n.fdiv 4)
theorem sz1 (n : Int) : (Str.ofString "0x").length + (Str.ofString (toString ((2 : Int) ^ (n.fmod 4).toNat))).length ≤ sizeLine := by
  rw [sizeLine_eq, len_0x]
  have := pow_len n
  omega
theorem sz2 (n : Int) (h1 : n < 32) (h0 : 0 ≤ n) : (Str.ofString "0x" ++ Str.ofString (toString ((2 : Int) ^ (n.fmod 4).toNat))).length + (PySem.Txt.mul (Str.ofString "0") (n.fdiv 4)).length ≤ sizeLine := by
  rw [sizeLine_eq, Str.length_append, len_0x]
  have := pow_len n
  have := mul_len0 n h1 h0
  omega
local macro_rules | `(tactic| walk_at "binaryOp Add str str") => `(tactic| (k_here; refine PyProof.Rows.add_str ?h (by first | exact sz1 _ | exact sz2 _ (by assumption) (by assumption)); intro _ _; (try dsimp only)))
set_option maxHeartbeats 0 in
theorem word_ok (w : World) (p : Program) (loose : List Str) (mean : ExcName → Option Value) (mg mb : Str → Option Value) (news : List (Addr × Obj)) (n : Int) (t : Tok) (hn : 0 ≤ n) (hn2 : n < 32) : CbClaim pw w (KK w.params) p loose mean mg mb 107 news [] (True) [.int n t] (fun t => .str (wordF n) t) := by
  suffices h : PySem.Challenge.rw_rw0102_01 = PySem.Challenge.rw_rw0102_01 → CbClaim pw w (KK w.params) p loose mean mg mb 107 news [] (True) [.int n t] (fun t => .str (wordF n) t) from h rfl
  k_fill
  intro _
  dsimp only [CbClaim, CbLists, CbRet]
  intros
  rename_i hret
  refine wpAny_call ?_
  k_dflt cell_enter
  k_steps
  · refine cb_retS hret ?_ (by k_asm) (cb_drop (by k_asm) (by kcj_all))
    unfold wordF
    rw [if_pos (by assumption)]
    rfl
  · walk_at "binaryOp Add str str"
    k_steps
    refine cb_retS hret ?_ (by k_asm) (cb_drop (by k_asm) (by kcj_all))
    unfold wordF
    rw [if_neg (by assumption)]
end Mine
namespace Mine
open PySem PySem.W PySem.Calls PyProof.Rows PyProof.V

/-- a contract that asks room for k frames -/
noncomputable abbrev Ct (prog : Program) (w : World) (K : Frag) (p : Program) (loose : List Str) (mean : ExcName → Option Value) (mg mb : Str → Option Value) (f : Addr) (news : List (Addr × Obj)) (k : Nat) (vs : List Value) (R : Tok → Value) : Prop :=
  ∀ (dp un : Nat) (gd : Option (List Code)) (cn : Str) (cs : Scope) (a : Addr) (ccd : Value) (cl : List (Str × Addr)) (outer : List Env) (A₀ : Around) (base h₀ : Heap) (L : Addr) (m : Str → Option Value) (s : Shared) (Q E : Value → Shared → Prop),
    Below A₀ base outer h₀ → Fr h₀ L s.heap m → K.In h₀ → News h₀ L s.heap news → Top p loose mean mg mb h₀ → cs.kind = .function → dp + k < recursionLimit → un + 8 * k < cLine → CbRet h₀ L m news s Q R →
      wpAny (model prog w) (ktrTop dp un gd cn cs L a ccd cl outer) (call (.ref f) vs) Q E s
theorem ct_use {prog : Program} {w : World} {K : Frag} {p : Program} {loose : List Str} {mean : ExcName → Option Value} {mg mb : Str → Option Value} {f : Addr} {news : List (Addr × Obj)} {k : Nat} {vs : List Value} {R : Tok → Value}
    (C : Ct prog w K p loose mean mg mb f news k vs R) {dp un : Nat} {gd : Option (List Code)} {cn : Str} {cs : Scope} {a : Addr} {ccd : Value} {cl : List (Str × Addr)} {outer : List Env} {A₀ : Around} {base h₀ : Heap} {L : Addr} {m : Str → Option Value} {s : Shared} {Q E : Value → Shared → Prop}
    (B : Below A₀ base outer h₀) (F : Fr h₀ L s.heap m) (X : K.In h₀) (N : News h₀ L s.heap news) (T : Top p loose mean mg mb h₀) (hk : cs.kind = .function) (hd : dp + k < recursionLimit) (hu : un + 8 * k < cLine)
    (h : ∀ (t : Tok) (h' : Heap) (tk' : Nat), Fr h₀ L h' m → News h₀ L h' news → Q (R t) { s with heap := h', toks := tk' }) :
    wpAny (model prog w) (ktrTop dp un gd cn cs L a ccd cl outer) (call (.ref f) vs) Q E s := C _ _ _ _ _ _ _ _ _ _ _ _ _ _ _ _ _ B F X N T hk hd hu h
theorem ct_of {prog : Program} {w : World} {K : Frag} {p : Program} {loose : List Str} {mean : ExcName → Option Value} {mg mb : Str → Option Value} {f : Addr} {news : List (Addr × Obj)} {vs : List Value} {R : Tok → Value}
    (C : CbClaim prog w K p loose mean mg mb f news [] True vs R) : Ct prog w K p loose mean mg mb f news 1 vs R := fun _ _ _ _ _ _ _ _ _ _ _ _ _ _ _ _ _ B F X N T hk hd hu h => C _ _ _ _ _ _ _ _ _ _ _ _ _ _ _ _ _ B F X N T hk trivial hd hu h
noncomputable def prepL (l : List Int) : Str := l.foldl (fun acc c => if b1S c then acc else acc ++ b3F c.toNat) Str.empty
theorem prepL_snoc (l : List Int) (c : Int) : prepL (l ++ [c]) = if b1S c then prepL l else prepL l ++ b3F c.toNat := by
  unfold prepL
  rw [List.foldl_append]; rfl
theorem b3_short : (b3.all fun p => decide (p.2.length ≤ 4)) = true := by kernel_rfl
theorem b3At_len {k : Int} {x : Str} (h : b3At k = some x) : x.length ≤ 4 := by
  have key : ∀ l : List (Int × Str), (l.all fun p => decide (p.2.length ≤ 4)) = true → ∀ y, KTD.datumAt k (l.map fun p => (p.1, PyData.str p.2)) = some (.str y) → y.length ≤ 4 := by
    intro l
    induction l with
    | nil => intro _ y e; cases e
    | cons p l ih =>
      intro hl y e
      rw [List.all_cons, Bool.and_eq_true, decide_eq_true_eq] at hl
      have e' : (if decide (k = p.1) = true then some (PyData.str p.2) else KTD.datumAt k (l.map fun p => (p.1, PyData.str p.2))) = some (.str y) := e
      split at e'
      · cases e'; exact hl.1
      · exact ih hl.2 y e'
  rcases datum_b3 k with ⟨_, e⟩ | ⟨y, e, e'⟩
  · rw [e] at h; cases h
  · rw [e'] at h
    obtain rfl := Option.some.inj h
    exact key b3 b3_short _ e
theorem b3F_len (cd : Nat) : (b3F cd).length ≤ 4 := by
  unfold b3F
  split
  · rename_i x h; exact b3At_len h
  · have := len_lower (ch cd)
    have e : (ch cd).length = 1 := rfl
    omega
theorem prepL_len (l : List Int) : (prepL l).length ≤ 4 * l.length := by
  have key : ∀ (l : List Int) (x : Str), (l.foldl (fun acc c => if b1S c then acc else acc ++ b3F c.toNat) x).length ≤ x.length + 4 * l.length := by
    intro l
    induction l with
    | nil => intro x; simp
    | cons c l ih =>
      intro x
      rw [List.foldl_cons, List.length_cons]
      have h1 := ih (if b1S c then x else x ++ b3F c.toNat)
      have h2 : (if b1S c then x else x ++ b3F c.toNat).length ≤ x.length + 4 := by
        split
        · omega
        · rw [Str.length_append]; have := b3F_len c.toNat; omega
      omega
  have := key l Str.empty
  have e : Str.empty.length = 0 := rfl
  rw [e] at this
  unfold prepL
  omega
theorem prep_skip {x : Str} {pre : List Int} {n : Nat} (h : x = prepL pre) (hb : b1S (n : Int) = true) : x = prepL (pre ++ [(n : Int)]) := by
  rw [prepL_snoc, if_pos hb]; exact h
theorem prep_take {x : Str} {pre : List Int} {n : Nat} (h : x = prepL pre) (hb : b1S (n : Int) = false) : x ++ b3F n = prepL (pre ++ [(n : Int)]) := by
  rw [prepL_snoc, if_neg (by rw [hb]; decide), h]; rfl
theorem prep_nil : Str.ofString "" = prepL [] := by decide +kernel
theorem prep_sz {x a : Str} {pre post : List Int} {n : Nat} (h : x = prepL pre) (hl : a.length = pre.length + (post.length + 1)) (ha : a.length ≤ 1000) : x.length + (b3F n).length ≤ sizeLine := by
  have h1 := prepL_len pre
  have h2 := b3F_len n
  rw [sizeLine_eq, h]
  omega
local macro_rules | `(tactic| walk_at "inplaceOp Add str str") => `(tactic| (k_here; refine PyProof.Rows.iadd_str ?h (prep_sz (by assumption) (by assumption) (by assumption)); intro _ _; (try dsimp only)))
local macro_rules | `(tactic| walk_at "mine:use") => `(tactic| (
  (case k1 => k_asm); (case k2 => k_asm); (case k3 => k_asm); (case k4 => k_asm); (case k5 => k_asm); (case kK => first | exact rfl | assumption); (case kd => ktr_room); (case ku => ktr_units);
  intro t9 h9 tk9 F9 N9; (try dsimp only); (try k_fold)))
local macro_rules | `(tactic| walk_at "call ref") => `(tactic| (k_here; (with_reducible show wpAny _ _ (call (Value.ref 32) [Value.str _ _]) _ _ _); refine' ct_use (ct_of (in_b1_ok _ _ _ _ _ _ _ _ _)) ?k1 ?k2 ?k3 ?k4 ?k5 ?kK ?kd ?ku ?_; walk_at "mine:use"))
local macro_rules | `(tactic| walk_at "call ref") => `(tactic| (k_here; (with_reducible show wpAny _ _ (call (Value.ref 78) [Value.str _ _]) _ _ _); refine' ct_use (ct_of (map_b3_ok _ _ _ _ _ _ _ _ _)) ?k1 ?k2 ?k3 ?k4 ?k5 ?kK ?kd ?ku ?_; walk_at "mine:use"))
set_option maxHeartbeats 0 in
theorem prep_ok (w : World) (p : Program) (loose : List Str) (mean : ExcName → Option Value) (mg mb : Str → Option Value) (news : List (Addr × Obj)) (a : Str) (t : Tok) (ha : a.length ≤ 1000) : Ct pw w (KK w.params) p loose mean mg mb 138 news 2 [.str a t] (fun t => .str (prepL (KStt.codes a)) t) := by
  suffices h : PySem.Challenge.rw_rw0102_01 = PySem.Challenge.rw_rw0102_01 → Ct pw w (KK w.params) p loose mean mg mb 138 news 2 [.str a t] (fun t => .str (prepL (KStt.codes a)) t) from h rfl
  k_fill
  intro _
  dsimp only [Ct, CbRet]
  intros
  rename_i hret
  refine wpAny_call ?_
  k_dflt cell_enter
  k_with "state" => first | exact prep_nil | exact prep_skip (by assumption) (by assumption) | exact prep_take (by assumption) (by assumption)
  k_with "pyIter str" => k_state (fun pre kept => kept = prepL pre) "kept"
  k_steps
  all_goals exact cb_retS hret (by assumption) (by k_asm) (by k_asm)
end Mine
namespace Mine
open PySem PySem.W PySem.Calls PyProof.Rows PyProof.V
local macro_rules | `(tactic| walk_at "mine:enterC") => `(tactic| (refine' code_defC ?k1 ?k2 ?k3 ?k4 ?k5 ?kA ?kF ?kK ?k6 ?k7 ?k8 ?k9 ?kB ?kD ?_ ?c2 ?c3 ?c4; (case kA => exact rfl); (case kF => exact rfl); (case kK => assumption); (case k1 => k_asm); (case k2 => k_asm); (case k3 => k_asm); (case k4 => k_asm); (case k5 => k_asm); (case k6 => k_is); (case k7 => k_is); (case k8 => ktr_room); (case k9 => exact BindsTo.of_eq rfl); (case kB => exact rfl); (case kD => decide +kernel); (case c2 => exact rfl); (case c3 => exact rfl); (case c4 => exact rfl); k_whole; intro g' L' h' tk' cells' FG' F' N' Y' B' X' T' l1; (try k_lt l1); k_cells Y'; (try simp only [List.cons_append, List.nil_append] at N'); (try dsimp only); (try k_lift B'); (try k_fold)))

noncomputable def Stop (P : Prop) : Prop := P
theorem Stop.out {P : Prop} (h : Stop P) : P := h
theorem Stop.inn {P : Prop} (h : P) : Stop P := h
noncomputable abbrev CtL (prog : Program) (w : World) (K : Frag) (p : Program) (loose : List Str) (mean : ExcName → Option Value) (mg mb : Str → Option Value) (f : Addr) (news : List (Addr × Obj)) (k : Nat) (vs : List Value) (ws : List Str) : Prop :=
  ∀ (dp un : Nat) (gd : Option (List Code)) (cn : Str) (cs : Scope) (a : Addr) (ccd : Value) (cl : List (Str × Addr)) (outer : List Env) (A₀ : Around) (base h₀ : Heap) (L : Addr) (m : Str → Option Value) (s : Shared) (Q E : Value → Shared → Prop),
    Below A₀ base outer h₀ → Fr h₀ L s.heap m → K.In h₀ → News h₀ L s.heap news → Top p loose mean mg mb h₀ → cs.kind = .function → dp + k < recursionLimit → un + 8 * k < cLine →
      (∀ (b : Addr) (us : List Value) (ne : Nat) (h' : Heap) (tk' : Nat), Fr h₀ L h' m → News h₀ L h' ((b, W.listOf us.toArray ne) :: news) → LCg.Off1 b news → StrsAre us ws → Q (.ref b) { s with heap := h', toks := tk' }) →
      wpAny (model prog w) (ktrTop dp un gd cn cs L a ccd cl outer) (call (.ref f) vs) Q E s
section
variable {prog : Program} {w : World} {A : Around} {h₀ : Heap} {L : Addr} {m : Str → Option Value} {env : Env} {ct elt : PySem.Expr} {x : Str} {scope : Scope} {cl : List (Str × Addr)} {s : Shared} {S : List (Addr × Obj) → Prop} {Fin : List Value → List (Addr × Obj) → Prop} {news : List (Addr × Obj)}
/-- what a turn of a comprehension with one test hands on: the sign's text, and that the test held -/
noncomputable def El (news : List (Addr × Obj)) (c : Bool) (r : Str) (y : Value) (news' : List (Addr × Obj)) : Prop := news' = news ∧ c = true ∧ ∃ t : Tok, y = .str r t
noncomputable def Sk (news : List (Addr × Obj)) (c : Bool) (news' : List (Addr × Obj)) : Prop := news' = news ∧ c = false
theorem filt_rest {n : Nat} {a : Int} (c : Int → Bool) (g : Int → Str)
    (turn : ∀ (k : Int) (t : Tok) I oI C oC D m₂ ys h tk (E' : Value → Shared → Prop), a ≤ k → k < a + (n : Int) → LCg.NsObj oC m₂ → m₂ x = some (.int k t) → Fr h₀ L h m → News h₀ L h ((I, oI) :: (C, oC) :: (D, LCg.lst ys) :: news) → LCg.Off3 I C D news → ((@Ne Nat I C) ∧ (@Ne Nat I D) ∧ (@Ne Nat C D)) →
      wpAny (model prog w) A (isTrue ct (compEnvC scope cl C env) (eval ct (compEnvC scope cl C env))) (fun ok s' => if ok = true then
        wpAny (model prog w) A (eval elt (compEnvC scope cl C env)) (LCg.CompEnd h₀ L m { s with heap := h, toks := tk } I oI C oC D (LCg.lst ys) S (fun y news' => El news (c k) (g k) y news')) E' s'
        else LCg.CompEnd h₀ L m { s with heap := h, toks := tk } I oI C oC D (LCg.lst ys) S (fun _ news' => Sk news (c k) news') Value.none s') E' { s with heap := h, toks := tk })
    (fin : ∀ ys, StrsAre ys (((rangeKs a n).filter c).map g) → Fin ys news) : LCt.CompRestT prog w A h₀ L m env ct elt x scope cl s S (fun i v => ∃ t, v = .int (a + (i : Int)) t) Fin n 0 [] news := by
  have key : ∀ (j i : Nat) (ys : List Value), i + j = n → StrsAre ys ((((rangeKs a n).take i).filter c).map g) → LCt.CompRestT prog w A h₀ L m env ct elt x scope cl s S (fun i v => ∃ t, v = .int (a + (i : Int)) t) Fin j i ys news := by
    intro j
    induction j with
    | zero =>
      intro i ys hi hy
      have e : i = (rangeKs a n).length := by rw [rangeKs_length]; omega
      subst e
      rw [List.take_length] at hy
      exact LCt.CompRestT.zero (fin ys hy)
    | succ j ih =>
      intro i ys hi hy
      refine LCt.CompRestT.succ ?_
      intro v I oI C oC D m₂ h tk E' hv hC hx F N off ne
      obtain ⟨t, rfl⟩ := hv
      have hk : (rangeKs a n)[i]? = some (a + (i : Int)) := by
        have hin : i < n := by omega
        simp [rangeKs, hin]
      refine wpAny_mono (turn (a + (i : Int)) t I oI C oC D m₂ ys h tk E' (by omega) (by omega) hC hx F N off ne) (fun ok s₂ hq => ?_) fun _ _ e => e
      cases ok with
      | true =>
        rw [if_pos rfl] at hq ⊢
        refine wpAny_mono hq (fun y s₃ hq => ?_) fun _ _ e => e
        obtain ⟨h', tk', nw, e, F', N', off', hS, hn, hc, t', hy'⟩ := hq
        rw [hn] at N' off' hS
        refine ⟨h', tk', news, e, F', N', off', hS, ?_⟩
        rw [hy']
        refine ih (i + 1) _ (by omega) ?_
        rw [List.take_add_one, hk]
        simpa [hc] using kct_snoc (y := g (a + (i : Int))) (t := t') hy
      | false =>
        rw [if_neg (by decide)] at hq ⊢
        obtain ⟨h', tk', nw, e, F', N', off', hS, hn, hc⟩ := hq
        rw [hn] at N' off' hS
        refine ⟨h', tk', news, e, F', N', off', hS, ?_⟩
        refine ih (i + 1) _ (by omega) ?_
        rw [List.take_add_one, hk]
        simpa [hc] using hy
  exact key n 0 [] (by omega) (by simp only [List.take_zero, List.filter_nil, List.map_nil]; exact .nil)
end
theorem item_strs_N {prog : Program} {w : World} {A : Around} {E : Value → Shared → Prop} {s : Shared} {h₀ : Heap} {L : Addr} {news : List (Addr × Obj)} {value slice : PySem.Expr} {l : Addr} {vs : List Value} {ws : List Str} {ne : Nat} {k : Int} {u : Tok} {Q : Value → Shared → Prop}
    (N : News h₀ L s.heap news) (hm : (l, W.listOf vs.toArray ne) ∈ news) (hi : StrsAre vs ws) (h0 : 0 ≤ k) (hk : k < ws.length) (hb : ws.length ≤ 1000) (h : ∀ u, Q (.str (ws.getD k.toNat Str.empty) u) s)
    (hs : subscripted slice false (.ref l) (.int k u) = operate [.ref l, .int k u] (getItem (.ref l) (.int k u)) := by with_unfolding_all rfl) :
    wpAny (model prog w) A (subscriptTail value slice (.ref l) (.int k u)) Q E s := by
  have hl : s.heap.IsList l vs.toArray := ⟨_, (N _ hm).1, rfl, _, rfl⟩
  have key : ∀ {vs : List Value} {ws : List Str}, StrsAre vs ws → ∀ j, j < ws.length → ∃ t, vs[j]? = some (.str (ws.getD j Str.empty) t) := by
    intro vs ws hi
    induction hi with
    | nil => intro j hj; cases hj
    | cons x t _ ih =>
      intro j hj
      cases j with
      | zero => exact ⟨t, rfl⟩
      | succ j => exact ih j (by simpa using hj)
  obtain ⟨t, e2⟩ := key hi k.toNat (by omega)
  exact tail_any hl.typeIs slot_list_getitem.lookup (wpAny_getItem_list hl h0 (by omega) (by simpa using e2) (h t)) hs
local macro_rules | `(tactic| walk_at "CompSrcT") => `(tactic| (k_here; refine Stop.out ?_))
noncomputable def memC (x k : Int) : Bool := decide ((x.fdiv (2 ^ k.toNat)).fmod 2 = 1)
noncomputable def memF (x : Int) (ws : List Str) : List Str := ((rangeKs 0 4).filter (memC x)).map fun k => ws.getD k.toNat Str.empty
set_option maxHeartbeats 0 in
theorem members_ok (w : World) (p : Program) (loose : List Str) (mean : ExcName → Option Value) (mg mb : Str → Option Value) (news : List (Addr × Obj)) (aw : Addr) (nw : Nat) (w0 w1 w2 w3 : Str) (t0 t1 t2 t3 : Tok) (x : Int) (t : Tok) (hx : 0 ≤ x) : CtL pw w (KK w.params) p loose mean mg mb 112 ((aw, W.listOf #[.str w0 t0, .str w1 t1, .str w2 t2, .str w3 t3] nw) :: news) 2 [.int x t, .ref aw] (memF x [w0, w1, w2, w3]) := by
  suffices h : PySem.Challenge.rw_rw0102_01 = PySem.Challenge.rw_rw0102_01 → CtL pw w (KK w.params) p loose mean mg mb 112 ((aw, W.listOf #[.str w0 t0, .str w1 t1, .str w2 t2, .str w3 t3] nw) :: news) 2 [.int x t, .ref aw] (memF x [w0, w1, w2, w3]) from h rfl
  k_fill
  intro _
  dsimp only [CtL]
  intros
  rename_i hret
  refine wpAny_call ?_
  k_dflt (walk_at "mine:enterC")
  k_steps
  refine Stop.inn ?_
  refine LCt.CompSrcT.range (n := 4) (by rfl) (by k_asm) (by k_asm) (by assumption) (by first | decide | rfl) (by first | rfl | decide) (by first | size_fits | exact Nat.le_of_ble_eq_true rfl) ?_
  intro gg
  refine filt_rest (memC x) (fun k => [w0, w1, w2, w3].getD k.toNat Str.empty) ?_ ?_
  · intro k t I' oI' C' oC' D' m' ys' h' tk' E' hk0 hk1 hC' hx' F' N' off' ne'
    have hk2 : k < (([w0, w1, w2, w3] : List Str).length : Int) := hk1
    k_steps
    · refine item_strs_N (vs := [.str w0 t0, .str w1 t1, .str w2 t2, .str w3 t3]) (ws := [w0, w1, w2, w3]) (ne := nw) N' (by k_mem) (.cons _ _ (.cons _ _ (.cons _ _ (.cons _ _ .nil)))) hk0 hk2 (Nat.le_of_ble_eq_true rfl) ?_
      intro u'
      exact ⟨h', _, _, rfl, F', N', off', trivial, rfl, decide_eq_true (by assumption), _, rfl⟩
    · exact ⟨h', _, _, rfl, F', N', off', trivial, rfl, decide_eq_false (by assumption)⟩
  · intro ys hys
    k_steps
    have ho := (by assumption : _ ≠ _ ∧ _ ≠ _ ∧ aw ≠ _ ∧ LCg.Off1 _ news)
    exact hret _ _ _ _ _ (by k_asm) (cb_drop (by k_asm) (by kcj_all)) ⟨ho.2.2.1, ho.2.2.2⟩ hys
end Mine
namespace Mine
open PySem PySem.W PySem.Calls PyProof.Rows PyProof.V
local macro_rules | `(tactic| walk_at "mine:enterC") => `(tactic| (refine' code_defC ?k1 ?k2 ?k3 ?k4 ?k5 ?kA ?kF ?kK ?k6 ?k7 ?k8 ?k9 ?kB ?kD ?_ ?c2 ?c3 ?c4; (case kA => exact rfl); (case kF => exact rfl); (case kK => assumption); (case k1 => k_asm); (case k2 => k_asm); (case k3 => k_asm); (case k4 => k_asm); (case k5 => k_asm); (case k6 => k_is); (case k7 => k_is); (case k8 => ktr_room); (case k9 => exact BindsTo.of_eq rfl); (case kB => exact rfl); (case kD => decide +kernel); (case c2 => exact rfl); (case c3 => exact rfl); (case c4 => exact rfl); k_whole; intro g' L' h' tk' cells' FG' F' N' Y' B' X' T' l1; (try k_lt l1); k_cells Y'; (try simp only [List.cons_append, List.nil_append] at N'); (try dsimp only); (try k_lift B'); (try k_fold)))

section
variable {prog : Program} {w : World} {A : Around} {E : Value → Shared → Prop} {s : Shared} {env : Env} {h₀ : Heap} {x : Str} {px : Pos} {body orelse : List Stmt} {Q : Flow → Shared → Prop}
/-- a loop over a range with an else: the state between two turns is J's -/
theorem for_else {r : Addr} {b₀ : Int} {t₀ u₀ v₀ : Tok} {n : Nat} {m₀ : Str → Option Value} {news : List (Addr × Obj)} (J : Nat → (Str → Option Value) → List (Addr × Obj) → Prop)
    (hx : env.kindOf x = some .local) (hp : (env.scope.kind == .class || (env.scope.kind == .module && env.locals != env.globals)) = false)
    (hh : A.handled = none) (hr : IsRange s.heap r 0 b₀ 1 t₀ u₀ v₀) (hsmall : Builtin.Range.small 0 b₀ 1 = true) (hn : Builtin.Range.rangeSize 0 b₀ 1 = (n : Int)) (F : Fr h₀ env.locals s.heap m₀) (N : News h₀ env.locals s.heap news) (hj : J 0 m₀ news)
    (turn : ∀ (i : Nat) t m₁ nx h tk own, i < n → nx.map (·.1) = news.map (·.1) → OwnOff own (news.map (·.1)) → J i m₁ nx → Fr h₀ env.locals h (fun y => if y = x then some (.int (i : Int) t) else m₁ y) → News h₀ env.locals h (nx ++ own) →
      wpAny (model prog w) A (execs body env) (InvPostN h₀ env.locals (J (i + 1)) own (news.map (·.1)) { s with heap := h, toks := tk } Q) E { s with heap := h, toks := tk })
    (done : ∀ m₁ nx h tk, J n m₁ nx → Fr h₀ env.locals h m₁ → News h₀ env.locals h nx → wpAny (model prog w) A (execs orelse env) Q E { s with heap := h, toks := tk })
    (hE : PassesOwn (model prog w) A env E) :
    wpAny (model prog w) A (pyIter (.ref r)) (fun it s₂ => codeAny (model prog w) A (.forLoop (.Name x px) it body orelse env) (fun r s' => match r with | .ok f => Q f s' | .error e => cameBackBy (model prog w) A env E e s') s₂) E s := by
  refine wpAny_pyIter_range hr hsmall ?_
  generalize hI : s.heap.objs.size = I
  have hIL : I ≠ env.locals := fun e => absurd F.ns.lt ((hI.trans e) ▸ Nat.lt_irrefl _)
  have hI0 : h₀.get? I = none := hI ▸ next_is_new F
  have hIN : ∀ p ∈ news, p.1 ≠ I := fun p hp e => absurd (Heap.lt_size (N p hp).1) (by rw [e, ← hI]; exact Nat.lt_irrefl _)
  have W := Walks.range (prog := prog) (w := w) hh I 0 1 n
  refine codeAny_forLoop
    (fun k s' => ∃ h' tk m' nx i, s' = { s with heap := h', toks := tk } ∧ IsRangeIter h' I (0 + (i : Nat) * 1) ((n : Int) - (i : Nat)) 1 ∧ Fr h₀ env.locals h' m' ∧ News h₀ env.locals h' nx ∧ nx.map (·.1) = news.map (·.1) ∧ J i m' nx ∧ i ≤ n ∧ k = n + 1 - i) ?_ (n + 1)
    ⟨_, _, m₀, news, 0, rfl, (by show IsRangeIter _ _ _ _ _; rw [hn, ← hI]; simpa using Heap.get?_push_size _ rfl), F.push _, (fun p hp => ⟨Heap.get?_push_of_some _ (N p hp).1, (N p hp).2⟩), rfl, hj, Nat.zero_le _, rfl⟩
  rintro k s' ⟨h', tk, m', nx, i, rfl, hst, F', N', hadr, hJ, hi, rfl⟩
  have off : ∀ p ∈ nx, p.1 ≠ I := fun p hp e => by
    have h1 : p.1 ∈ news.map (·.1) := hadr ▸ List.mem_map.mpr ⟨p, hp, rfl⟩
    obtain ⟨q, hq, e'⟩ := List.mem_map.mp h1
    exact hIN q hq (e'.trans e)
  have next : ∀ h₁ : Heap, (∀ b o, b ∉ [I] → h'.get? b = some o → h₁.get? b = some o) → Fr h₀ env.locals h₁ m' ∧ News h₀ env.locals h₁ nx := fun h₁ hk₁ =>
    ⟨⟨F'.ns.at' fun o e => hk₁ _ o (fun q => hIL (List.mem_singleton.mp q).symm) e, fun b o e => hk₁ b o (fun q => by rw [List.mem_singleton.mp q, hI0] at e; cases e) (F'.keep b o e), F'.above⟩, fun p hp => ⟨hk₁ _ _ (fun q => off p hp (List.mem_singleton.mp q)) (N' p hp).1, (N' p hp).2⟩⟩
  by_cases hlt : i < n
  · refine W.item i _ _ _ hlt hst fun v h₁ tk₁ hP hst₁ hk₁ => ?_
    obtain ⟨t, rfl⟩ := hP
    obtain ⟨F₁, N₁⟩ := next h₁ hk₁
    refine wpAny_assign_Name (wpAny_storeName_local hx F₁.ns (fun h₂ hn₂ hs₂ => ?_) hp)
    have F₂ := F₁.set hn₂ hs₂
    obtain ⟨O, e2, hO⟩ : ∃ O, h₂.get? I = some O ∧ ∀ h : Heap, h.get? I = some O → IsRangeIter h I (0 + ((i + 1 : Nat) : Int) * 1) ((n : Int) - ((i + 1 : Nat) : Int)) 1 := ⟨_, (hs₂.2 I hIL).trans hst₁, fun _ e => e⟩
    have N₂ : News h₀ env.locals h₂ (nx ++ [(I, O)]) := (N₁.set hs₂).append (fun p hp => by rw [List.mem_singleton.mp hp]; exact ⟨e2, hIL, hI0⟩)
    have F₃ : Fr h₀ env.locals h₂ (fun y => if y = x then some (.int (i : Int) t) else m' y) := by
      have e : (0 : Int) + (i : Nat) * 1 = (i : Int) := by omega
      rw [← e]; exact F₂
    refine wpAny_passesOwn hE (wpAny_mono (turn i t m' nx h₂ _ [(I, O)] hlt hadr (fun p hp b hb e => ?_) hJ F₃ N₂) (fun f s₃ h₃ => ?_) fun _ _ e => e)
    · rw [List.mem_singleton.mp hp] at e
      obtain ⟨q, hq, e'⟩ := List.mem_map.mp hb
      exact hIN q hq (e'.trans e.symm)
    · have fin : ∀ tk₅, InvEndN h₀ env.locals (J (i + 1)) [(I, O)] (news.map (·.1)) { s with heap := h₂, toks := tk₅ } s₃ → ∃ m, m < n + 1 - i ∧ ∃ h' tk m' nx i, s₃ = { s with heap := h', toks := tk } ∧ IsRangeIter h' I (0 + (i : Nat) * 1) ((n : Int) - (i : Nat)) 1 ∧ Fr h₀ env.locals h' m' ∧ News h₀ env.locals h' nx ∧ nx.map (·.1) = news.map (·.1) ∧ J i m' nx ∧ i ≤ n ∧ m = n + 1 - i := by
        rintro tk₅ ⟨h₄, tk₄, m₄, news₄, nx₄, rfl, F₄, N₄, hn₄, ho₄, ha₄, hJ₄⟩
        exact ⟨n + 1 - (i + 1), by omega, h₄, tk₄, m₄, nx₄, i + 1, rfl, hO _ (N₄ _ (ho₄ _ (List.mem_singleton.mpr rfl))).1, F₄, (fun p hp => N₄ p (hn₄ p hp)), ha₄, hJ₄, hlt, rfl⟩
      cases f with
      | ret v => exact h₃
      | brk => exact h₃
      | cont => exact fin _ h₃
      | next => exact fin _ h₃
  · have hin : i = n := by omega
    subst hin
    refine W.done _ _ _ hst fun h₁ tk₁ hk₁ => ?_
    obtain ⟨F₁, N₁⟩ := next h₁ hk₁
    exact wpAny_passesOwn hE (done m' nx h₁ tk₁ hJ F₁ N₁)
end
end Mine
namespace Mine
open PySem PySem.W PySem.Calls PyProof.Rows PyProof.V
local macro_rules | `(tactic| walk_at "mine:enterC") => `(tactic| (refine' code_defC ?k1 ?k2 ?k3 ?k4 ?k5 ?kA ?kF ?kK ?k6 ?k7 ?k8 ?k9 ?kB ?kD ?_ ?c2 ?c3 ?c4; (case kA => exact rfl); (case kF => exact rfl); (case kK => assumption); (case k1 => k_asm); (case k2 => k_asm); (case k3 => k_asm); (case k4 => k_asm); (case k5 => k_asm); (case k6 => k_is); (case k7 => k_is); (case k8 => ktr_room); (case k9 => exact BindsTo.of_eq rfl); (case kB => exact rfl); (case kD => decide +kernel); (case c2 => exact rfl); (case c3 => exact rfl); (case c4 => exact rfl); k_whole; intro g' L' h' tk' cells' FG' F' N' Y' B' X' T' l1; (try k_lt l1); k_cells Y'; (try simp only [List.cons_append, List.nil_append] at N'); (try dsimp only); (try k_lift B'); (try k_fold)))

/-- the state of a loop that keeps a list of texts and one int -/
noncomputable def TxInt (Inv : Nat → List Str → Int → Prop) (d : Addr) (post : List (Addr × Obj)) (x y : Str) (stored : List Str) (m₀ : Str → Option Value) (i : Nat) (m : Str → Option Value) (nx : List (Addr × Obj)) : Prop :=
  ∃ names us nn fl t, nx = (d, W.listOf us.toArray nn) :: post ∧ StrsAre us names ∧ m y = some (.int fl t) ∧ (∀ z, z ≠ x → z ≠ y → stored.contains z = false → m z = m₀ z) ∧ Inv i names fl
section
variable {prog : Program} {w : World} {A : Around} {E : Value → Shared → Prop} {s : Shared} {env : Env} {h₀ : Heap} {x : Str} {px : Pos} {body orelse : List Stmt} {Q : Flow → Shared → Prop}
theorem for_txint {r : Addr} {b₀ : Int} {t₀ u₀ v₀ : Tok} {n : Nat} {m₀ : Str → Option Value} {d : Addr} {vs₀ : List Value} {nn₀ : Nat} {post : List (Addr × Obj)} {c₀ : Int} {tc : Tok} (y : Str) (stored : List Str) (Inv : Nat → List Str → Int → Prop)
    (hx : env.kindOf x = some .local) (hp : (env.scope.kind == .class || (env.scope.kind == .module && env.locals != env.globals)) = false)
    (hh : A.handled = none) (hr : IsRange s.heap r 0 b₀ 1 t₀ u₀ v₀) (hsmall : Builtin.Range.small 0 b₀ 1 = true) (hn : Builtin.Range.rangeSize 0 b₀ 1 = (n : Int)) (F : Fr h₀ env.locals s.heap m₀) (N : News h₀ env.locals s.heap ((d, W.listOf vs₀.toArray nn₀) :: post))
    (hpd : ∀ p ∈ post, p.1 ≠ d) (hv : vs₀ = []) (hy : m₀ y = some (.int c₀ tc)) (h0 : Inv 0 [] c₀) (hE : PassesOwn (model prog w) A env E)
    (turn : ∀ (i : Nat) t names us nn fl ta (u : Str → Option Value) h tk own, i < n → Inv i names fl → StrsAre us names → (∀ p ∈ post ++ own, p.1 ≠ d) → OwnOff own (d :: post.map (·.1)) → Fr h₀ env.locals h (fun z => if z = x then some (.int (i : Int) t) else if z = y then some (.int fl ta) else if stored.contains z then u z else m₀ z) → News h₀ env.locals h ((d, W.listOf us.toArray nn) :: (post ++ own)) →
      wpAny (model prog w) A (execs body env) (InvPostN h₀ env.locals (TxInt Inv d post x y stored m₀ (i + 1)) own (d :: post.map (·.1)) { s with heap := h, toks := tk } Q) E { s with heap := h, toks := tk })
    (done : ∀ names us nn fl ta (u : Str → Option Value) h tk, Inv n names fl → StrsAre us names → Fr h₀ env.locals h (fun z => if z = x then u z else if z = y then some (.int fl ta) else if stored.contains z then u z else m₀ z) → News h₀ env.locals h ((d, W.listOf us.toArray nn) :: post) → wpAny (model prog w) A (execs orelse env) Q E { s with heap := h, toks := tk }) :
    wpAny (model prog w) A (pyIter (.ref r)) (fun it s₂ => codeAny (model prog w) A (.forLoop (.Name x px) it body orelse env) (fun r s' => match r with | .ok f => Q f s' | .error e => cameBackBy (model prog w) A env E e s') s₂) E s := by
  subst hv
  refine for_else (TxInt Inv d post x y stored m₀) hx hp hh hr hsmall hn F N ⟨[], [], nn₀, c₀, tc, rfl, .nil, hy, fun _ _ _ _ => rfl, h0⟩ ?_ ?_ hE
  · rintro i t m₁ nx h tk own hi _ hoff ⟨names, us, nn, fl, ta, rfl, hs, ha, hm, hI⟩ F₁ N₁
    rw [kpf_map1 ha hm] at F₁
    exact turn i t names us nn fl ta m₁ h tk own hi hI hs (fun p hp => (List.mem_append.mp hp).elim (hpd p) fun hp => hoff p hp d (.head _)) hoff F₁ N₁
  · rintro m₁ nx h tk ⟨names, us, nn, fl, ta, rfl, hs, ha, hm, hI⟩ F₁ N₁
    refine done names us nn fl ta m₁ h tk hI hs ?_ N₁
    have e := kpf_done1 ha hm
    exact e.symm ▸ F₁
end
theorem tx_end {Inv : Nat → List Str → Int → Prop} {h₀ h' : Heap} {L d : Addr} {m' m₀ : Str → Option Value} {its : Array Value} {nn : Nat} {post own : List (Addr × Obj)} {us : List Value} {names : List Str} {x y : Str} {fl : Int} {t : Tok} {stored : List Str} {i tk : Nat} {s₁ : Shared}
    (F : Fr h₀ L h' m') (N : News h₀ L h' ((d, W.listOf its nn) :: (post ++ own))) (hits : its = us.toArray) (hs : StrsAre us names) (hy : m' y = some (.int fl t)) (hm : ∀ z, z ≠ x → z ≠ y → stored.contains z = false → m' z = m₀ z) (hI : Inv (i + 1) names fl) :
    InvEndN h₀ L (TxInt Inv d post x y stored m₀ (i + 1)) own (d :: post.map (·.1)) s₁ { s₁ with heap := h', toks := tk } := by
  subst hits
  exact ⟨h', tk, m', _, (d, W.listOf us.toArray nn) :: post, rfl, F, N, (fun p hp => by
    rcases List.mem_cons.mp hp with rfl | hp
    · exact List.mem_cons_self ..
    · exact List.mem_cons_of_mem _ (List.mem_append_left _ hp)), (fun p hp => List.mem_cons_of_mem _ (List.mem_append_right _ hp)), rfl, names, us, nn, fl, t, rfl, hs, hy, hm, hI⟩
theorem ss_snoc {us : List Value} {ws : List Str} {x : Str} {t : Tok} (h : StrsAre us ws) : StrsAre (us ++ [.str x t]) (ws ++ [x]) := h.append' (.cons _ _ .nil)
/-! the names of the flags -/
noncomputable def cfL : List (Int × Str) := [(1, Str.ofString "OPTIMIZED"), (2, Str.ofString "NEWLOCALS"), (4, Str.ofString "VARARGS"), (8, Str.ofString "VARKEYWORDS"), (16, Str.ofString "NESTED"), (32, Str.ofString "GENERATOR"), (64, Str.ofString "NOFREE"), (128, Str.ofString "COROUTINE"), (256, Str.ofString "ITERABLE_COROUTINE"), (512, Str.ofString "ASYNC_GENERATOR")]
noncomputable def cfD : List (Int × PyData) := cfL.map fun p => (p.1, .str p.2)
noncomputable def nmF (k : Int) (x : Str) : Str := match KTD.datumAt k cfD with | some (.str y) => y | _ => x
noncomputable def cfE (P : Params) : List DictEntry := match (om79 P).data with | .dict es _ => es.toList | _ => []
theorem cf_keyed {P : Params} {h : Heap} (X : (KK P).In h) : KTD.Keyed h 79 cfD := fun prog w => by
  have ho : h.get? 79 = some (om79 P) := X _ _ (by rfl)
  obtain ⟨hk, kvs, hp, hf, hm⟩ := KTD.nums_of_look prog w (es := cfE P) (D := cfD) (by kernel_rfl)
  exact ⟨by decide, kvs, ⟨_, (cfE P).toArray, 10, ho, ⟨rfl, rfl, rfl⟩, rfl, fun e he => hk e (by simpa using he), hp, by rw [hm]; decide +kernel⟩, hf⟩
theorem datum_txt (k : Int) (l : List (Int × Str)) : (KTD.datumAt k (l.map fun p => (p.1, PyData.str p.2)) = none) ∨ ∃ x ∈ l.map (·.2), KTD.datumAt k (l.map fun p => (p.1, PyData.str p.2)) = some (.str x) := by
  induction l with
  | nil => exact .inl rfl
  | cons p l ih =>
    show (if decide (k = p.1) = true then some (PyData.str p.2) else KTD.datumAt k _) = none ∨ ∃ x ∈ p.2 :: l.map (·.2), (if decide (k = p.1) = true then some (PyData.str p.2) else KTD.datumAt k _) = some (.str x)
    split
    · exact .inr ⟨_, List.mem_cons_self .., rfl⟩
    · rcases ih with e | ⟨x, hx, e⟩
      · exact .inl e
      · exact .inr ⟨x, List.mem_cons_of_mem _ hx, e⟩
theorem nmF_len (k : Int) (x : Str) (hx : x.length ≤ 40) : (nmF k x).length ≤ 40 := by
  unfold nmF
  have h := datum_txt k cfL
  rcases h with e | ⟨y, hy, e⟩
  · rw [show KTD.datumAt k cfD = none from e]; exact hx
  · rw [show KTD.datumAt k cfD = some (.str y) from e]
    have : ((cfL.map (·.2)).all fun y => decide (y.length ≤ 40)) = true := by kernel_rfl
    exact of_decide_eq_true (List.all_eq_true.mp this y hy)
section
variable {prog : Program} {w : World} {A : Around} {E : Value → Shared → Prop} {s : Shared} {h₀ : Heap} {L : Addr} {m : Str → Option Value} {P : Params} {k : Int} {t : Tok}
theorem cf_meth_rule {pl : Sem Bool} {Q : Value × List Value → Shared → Prop} (F : Fr h₀ L s.heap m) (X₀ : (KK P).In h₀) (h : Q (.builtin "dict.get", [.ref 79]) s) :
    wpAny (model prog w) A (getMethod (.ref 79) "get" pl) Q E s := KTD.getMethod_keyed (cf_keyed X₀) F.keep h
theorem cf_get_rule {x : Str} {t' : Tok} {Q : Value → Shared → Prop} (F : Fr h₀ L s.heap m) (X₀ : (KK P).In h₀) (h : ∀ u, Q (.str (nmF k x) u) { s with toks := s.toks + 1 }) :
    wpAny (model prog w) A (call (.builtin "dict.get") [.ref 79, .int k t, .str x t']) Q E s :=
  call_get2_intTab (dd := .str x) ((cf_keyed X₀).keep F.keep prog w) (.str x t') fun v hv => by
    rw [KTD.lookup_keyed] at hv
    have e := datum_txt k cfL
    have key : Flat v (.str (nmF k x)) := by
      unfold nmF
      rcases e with e | ⟨y, _, e⟩
      · rw [show KTD.datumAt k cfD = none from e] at hv ⊢
        exact hv
      · rw [show KTD.datumAt k cfD = some (.str y) from e] at hv ⊢
        exact hv
    obtain ⟨u, rfl⟩ := key.str_inv
    exact h u
end
/-! what pretty_flags hands back -/
noncomputable def flagB (i : Nat) : Int := 1 * 2 ^ ((i : Nat) : Int).toNat
noncomputable def pfGo : Nat → List Str → Int → Nat → List Str
  | 0, names, fl, _ => names ++ [baseText "0x" 16 fl]
  | f + 1, names, fl, i => if Builtin.bitAnd fl (flagB i) = 0 then pfGo f names fl (i + 1) else
      if Builtin.bitXor fl (flagB i) = 0 then names ++ [nmF (flagB i) (baseText "0x" 16 (flagB i))] else pfGo f (names ++ [nmF (flagB i) (baseText "0x" 16 (flagB i))]) (Builtin.bitXor fl (flagB i)) (i + 1)
noncomputable def prettyF (n : Int) : Str := Txt.join (Str.ofString ", ") (pfGo 32 [] n 0)
noncomputable def PfInv (n : Int) (i : Nat) (names : List Str) (fl : Int) : Prop := pfGo 32 [] n 0 = pfGo (32 - i) names fl i ∧ names.length ≤ i ∧ (∀ x ∈ names, x.length ≤ 40) ∧ 0 ≤ fl ∧ fl < 2 ^ 33
theorem hex_len (k : Int) (h0 : 0 ≤ k) (h1 : k < 2 ^ 33) : (baseText "0x" 16 k).length ≤ 40 := by
  unfold baseText
  rw [Str.length_append, Str.length_append, if_neg (by omega), ofString_ofList_length (Nat.toDigits 16 k.natAbs)]
  have h2 : (Nat.toDigits 16 k.natAbs).length ≤ 10 := (Nat.length_toDigits_le_iff (by decide) (by decide)).mpr (by have : k.natAbs < 2 ^ 33 := by omega
                                                                                                                   exact Nat.lt_trans this (by decide))
  have e1 : (Str.ofString "").length = 0 := by decide +kernel
  have e2 : (Str.ofString "0x").length = 2 := by decide +kernel
  omega
theorem flagB_pos (i : Nat) (h : i < 32) : 0 ≤ flagB i ∧ flagB i < 2 ^ 33 := by
  have key : ∀ i < 32, 0 ≤ flagB i ∧ flagB i < 2 ^ 33 := by decide +kernel
  exact key i h
theorem xor_pos (a b : Int) (ha : 0 ≤ a) (ha' : a < 2 ^ 33) (hb : 0 ≤ b) (hb' : b < 2 ^ 33) : 0 ≤ Builtin.bitXor a b ∧ Builtin.bitXor a b < 2 ^ 33 := by
  obtain ⟨a, rfl⟩ := Int.eq_ofNat_of_zero_le ha
  obtain ⟨b, rfl⟩ := Int.eq_ofNat_of_zero_le hb
  have ho : (a ||| b) < 2 ^ 33 := Nat.or_lt_two_pow (by omega) (by omega)
  have hle : (a &&& b) ≤ (a ||| b) := Nat.le_trans Nat.and_le_left Nat.left_le_or
  have e : Builtin.bitXor (a : Int) (b : Int) = ((a ||| b : Nat) : Int) - ((a &&& b : Nat) : Int) := by
    have n1 : ∀ x : Nat, Builtin.bitNot (x : Int) = -(x : Int) - 1 := fun _ => rfl
    have d1 : ∀ x : Nat, decide (0 ≤ (x : Int)) = true := fun x => decide_eq_true (by omega)
    have d2 : ∀ x : Nat, decide (0 ≤ Builtin.bitNot (x : Int)) = false := fun x => decide_eq_false (by rw [n1]; omega)
    have n2 : ∀ x : Nat, (Builtin.bitNot (Builtin.bitNot (x : Int))) = x := fun x => by unfold Builtin.bitNot; omega
    unfold Builtin.bitXor Builtin.bitOr Builtin.bitAnd
    simp only [d1, d2, n2, Int.toNat_natCast]
  rw [e]
  have hP : (2 : Int) ^ 33 = 8589934592 := by decide
  have hP' : (2 : Nat) ^ 33 = 8589934592 := by decide
  omega
theorem pf_skip {n : Int} {i : Nat} {names : List Str} {fl : Int} (hi : i < 32) (h : PfInv n i names fl) (hb : Builtin.bitAnd fl (flagB i) = 0) : PfInv n (i + 1) names fl := by
  obtain ⟨h1, h2, h3⟩ := h
  refine ⟨?_, by omega, h3⟩
  rw [h1, show 32 - i = (32 - (i + 1)) + 1 by omega, pfGo, if_pos hb]
theorem pf_take {n : Int} {i : Nat} {names : List Str} {fl : Int} (hi : i < 32) (h : PfInv n i names fl) (hb : ¬ Builtin.bitAnd fl (flagB i) = 0) (hx : ¬ Builtin.bitXor fl (flagB i) = 0) : PfInv n (i + 1) (names ++ [nmF (flagB i) (baseText "0x" 16 (flagB i))]) (Builtin.bitXor fl (flagB i)) := by
  obtain ⟨h1, h2, h3, h4, h5⟩ := h
  have hF := flagB_pos i hi
  refine ⟨?_, ?_, ?_, xor_pos fl (flagB i) h4 h5 hF.1 hF.2⟩
  · rw [h1, show 32 - i = (32 - (i + 1)) + 1 by omega, pfGo, if_neg hb, if_neg hx]
  · rw [List.length_append]; exact Nat.add_le_add_right h2 1
  · intro x hx
    rcases List.mem_append.mp hx with hx | hx
    · exact h3 x hx
    · rw [List.mem_singleton.mp hx]; exact nmF_len _ _ (hex_len _ hF.1 hF.2)
theorem pf_stop {n : Int} {i : Nat} {names : List Str} {fl : Int} (hi : i < 32) (h : PfInv n i names fl) (hb : ¬ Builtin.bitAnd fl (flagB i) = 0) (hx : Builtin.bitXor fl (flagB i) = 0) : pfGo 32 [] n 0 = names ++ [nmF (flagB i) (baseText "0x" 16 (flagB i))] := by
  obtain ⟨h1, _⟩ := h
  rw [h1, show 32 - i = (32 - (i + 1)) + 1 by omega, pfGo, if_neg hb, if_pos hx]
theorem pf_end {n : Int} {names : List Str} {fl : Int} (h : PfInv n 32 names fl) : pfGo 32 [] n 0 = names ++ [baseText "0x" 16 fl] := h.1
theorem pf_weight {names : List Str} {x : Str} {i : Nat} (h2 : names.length ≤ i) (hi : i ≤ 32) (h3 : ∀ x ∈ names, x.length ≤ 40) (hx : x.length ≤ 40) : ((names ++ [x]).map (·.length)).sum + (names ++ [x]).length ≤ 1048576 := by
  have key : ∀ l : List Str, (∀ x ∈ l, x.length ≤ 40) → (l.map (·.length)).sum ≤ 40 * l.length := by
    intro l
    induction l with
    | nil => intro _; simp
    | cons a l ih =>
      intro h
      have h1 := h a (List.mem_cons_self ..)
      have h2 := ih fun x hx => h x (List.mem_cons_of_mem _ hx)
      simp only [List.map_cons, List.sum_cons, List.length_cons]
      omega
  have h5 := key (names ++ [x]) (fun y hy => by
    rcases List.mem_append.mp hy with hy | hy
    · exact h3 y hy
    · rw [List.mem_singleton.mp hy]; exact hx)
  have h4 : (names ++ [x]).length = names.length + 1 := by rw [List.length_append]; rfl
  omega
theorem pf_hex_sz (i : Nat) (h : i < 32) : (baseText "0x" 16 (1 * 2 ^ ((i : Nat) : Int).toNat)).length ≤ sizeLine := by
  have := hex_len (flagB i) (flagB_pos i h).1 (flagB_pos i h).2
  rw [sizeLine_eq]
  exact Nat.le_trans this (by decide)
local macro_rules | `(tactic| walk_at "exec For Name Call cons cons") => `(tactic| (k_here; refine wpAny_For ?_))
local macro_rules | `(tactic| walk_at "pyIter ref") => `(tactic| (k_here; refine Stop.out ?_))
local macro_rules | `(tactic| walk_at "call builtin:str.join") => `(tactic| (k_here; refine Stop.out ?_))
local macro_rules | `(tactic| walk_at "getMethod ref") => `(tactic| (k_here; (with_reducible show wpAny _ _ (getMethod (Value.ref 79) _ _) _ _ _); refine' cf_meth_rule ?k1 ?k2 ?_; (case k1 => k_asm); (case k2 => k_asm)))
local macro_rules | `(tactic| walk_at "call builtin:dict.get") => `(tactic| (k_here; (with_reducible show wpAny _ _ (call (Value.builtin "dict.get") [Value.ref 79, Value.int _ _, Value.str _ _]) _ _ _); refine' cf_get_rule ?k1 ?k2 ?_; (case k1 => k_asm); (case k2 => k_asm); intro _))
local macro_rules | `(tactic| walk_at "call builtin:list.append") => `(tactic| (k_here; refine' append_K ?k1 ?k2 (Upd.head (by assumption)) ?_ ?z; (case k1 => k_asm); (case k2 => k_asm); (case z => size_fits); k_whole; intro h9 F9 N9; (try dsimp only)))
local macro_rules | `(tactic| walk_at "call builtin:hex") => `(tactic| (k_here; refine P.hex_of_int ?_ (pf_hex_sz _ (by assumption))))
local macro_rules | `(tactic| walk_at "call builtin:hex") => `(tactic| (k_here; refine P.hex_of_int ?_ (Nat.le_trans (hex_len _ (by assumption) (by assumption)) (by rw [sizeLine_eq]; decide))))
set_option maxHeartbeats 0 in
theorem pretty_ok (w : World) (p : Program) (loose : List Str) (mean : ExcName → Option Value) (mg mb : Str → Option Value) (news : List (Addr × Obj)) (n : Int) (t : Tok) (hn : 0 ≤ n) (hn2 : n < 2 ^ 33) : CbClaim pw w (KK w.params) p loose mean mg mb 86 news [] (True) [.int n t] (fun t => .str (prettyF n) t) := by
  suffices h : PySem.Challenge.rw_rw0102_01 = PySem.Challenge.rw_rw0102_01 → CbClaim pw w (KK w.params) p loose mean mg mb 86 news [] (True) [.int n t] (fun t => .str (prettyF n) t) from h rfl
  k_fill
  intro _
  dsimp only [CbClaim, CbLists, CbRet]
  intros
  rename_i hret
  refine wpAny_call ?_
  k_dflt cell_enter
  k_steps
  refine Stop.inn ?_
  (rename Fr _ _ _ _ => lF'); (rename News _ _ _ _ => lN')
  refine for_txint (n := 32) (vs₀ := []) (Str.ofString "flags") [Str.ofString "flag"] (PfInv n) (by rfl) (by rfl) (by rfl) (by assumption) (by decide) (by decide) lF' lN' (by k_all) rfl (by rfl) ⟨rfl, Nat.zero_le _, (fun _ h => nomatch h), hn, hn2⟩ (by passes_own) ?_ ?_
  · intro i t names us nn fl ta u h tk own hi hI hs hall hoff F₁ N₁
    have hI' := hI
    obtain ⟨hI1, hI2, hI3, hI4, hI5⟩ := hI'
    k_steps
    · exact tx_end (us := us ++ [_]) (by k_asm) (by k_asm) (List.push_toArray ..) (ss_snoc hs) (by rfl) (by intro z h1 h2 h3; have h4 : z ≠ Str.ofString "flag" := (fun e => absurd h3 (by rw [e]; decide +kernel)); simp only [if_neg h1, if_neg h2, if_neg h4, h3, Bool.false_eq_true, if_false]) (pf_take hi hI (by assumption) (by assumption))
    · refine Stop.inn ?_
      refine join_listW (ys := names ++ [nmF (flagB i) (baseText "0x" 16 (flagB i))]) (News.isList (by k_asm) (by k_mem)) (by rw [List.push_toArray]; exact ss_snoc hs) (by decide +kernel) (pf_weight hI2 (by omega) hI3 (nmF_len _ _ (hex_len _ (flagB_pos i hi).1 (flagB_pos i hi).2))) ?_
      intro t' k'
      k_steps
      exact cb_retS hret (by unfold prettyF; rw [pf_stop hi hI (by assumption) (by assumption)]) (by k_asm) (cb_drop (by k_asm) (by kcj_all))
    · exact tx_end (by k_asm) (by k_asm) rfl hs (by rfl) (by intro z h1 h2 h3; have h4 : z ≠ Str.ofString "flag" := (fun e => absurd h3 (by rw [e]; decide +kernel)); simp only [if_neg h1, if_neg h2, if_neg h4, h3, Bool.false_eq_true, if_false]) (pf_skip hi hI (by assumption))
  · intro names us nn fl ta u h tk hI hs F₁ N₁
    have hI' := hI
    obtain ⟨hI1, hI2, hI3, hI4, hI5⟩ := hI'
    k_steps
    refine Stop.inn ?_
    refine join_listW (ys := names ++ [baseText "0x" 16 fl]) (News.isList (by k_asm) (by k_mem)) (by rw [List.push_toArray]; exact ss_snoc hs) (by decide +kernel) (pf_weight hI2 (by omega) hI3 (hex_len _ hI4 hI5)) ?_
    intro t' k'
    k_steps
    exact cb_retS hret (by unfold prettyF; rw [pf_end hI]) (by k_asm) (cb_drop (by k_asm) (by kcj_all))
end Mine
namespace Mine
open PySem PySem.W PySem.Calls PyProof.Rows PyProof.V
local macro_rules | `(tactic| walk_at "mine:enterC") => `(tactic| (refine' code_defC ?k1 ?k2 ?k3 ?k4 ?k5 ?kA ?kF ?kK ?k6 ?k7 ?k8 ?k9 ?kB ?kD ?_ ?c2 ?c3 ?c4; (case kA => exact rfl); (case kF => exact rfl); (case kK => assumption); (case k1 => k_asm); (case k2 => k_asm); (case k3 => k_asm); (case k4 => k_asm); (case k5 => k_asm); (case k6 => k_is); (case k7 => k_is); (case k8 => ktr_room); (case k9 => exact BindsTo.of_eq rfl); (case kB => exact rfl); (case kD => decide +kernel); (case c2 => exact rfl); (case c3 => exact rfl); (case c4 => exact rfl); k_whole; intro g' L' h' tk' cells' FG' F' N' Y' B' X' T' l1; (try k_lt l1); k_cells Y'; (try simp only [List.cons_append, List.nil_append] at N'); (try dsimp only); (try k_lift B'); (try k_fold)))

open Builtin Builtin.Str in
noncomputable def find4 (x y : Str) (i j : Int) : Int := match occurrences x y (fromIndex x.length i) (min (fromIndex x.length j) x.length) 1 with | k :: _ => (k : Int) | [] => -1
open Builtin Builtin.Str in
theorem gives_find4 (x y : Str) (i j : Int) (t u v v' : Tok) : Gives («str.find» ⟨[.str x t, .str y u, .int i v, .int j v'], []⟩) (.int (find4 x y i j)) := by
  show Gives (match occurrences x y (fromIndex x.length i) (min (fromIndex x.length j) x.length) 1 with | k :: _ => retInt k | [] => (do rule "str.find.not-found"; retInt (-1))) _
  unfold find4
  cases occurrences x y (fromIndex x.length i) (min (fromIndex x.length j) x.length) 1 with
  | nil => exact .rule (.of_eq rfl)
  | cons k _ => exact .of_eq rfl
section
variable {prog : Program} {w : World} {A : Around} {E : Value → Shared → Prop} {s : Shared} {h₀ : Heap} {L : Addr} {m : Str → Option Value} {news : List (Addr × Obj)}
theorem find4_rule {x y : Str} {t u v v' : Tok} {i j : Int} {Q : Value → Shared → Prop} (hq : Q (.int (find4 x y i j) s.toks) { s with toks := s.toks + 1 }) : wpAny (model prog w) A (call (.builtin "str.find") [.str x t, .str y u, .int i v, .int j v']) Q E s :=
  call_gives PySem.F.slot_str_find (typeIs_str _ _ _) PySem.F.entry_str_find (PySem.F.args_str_find_4 _ _ _ _) (gives_find4 x y i j t u v v') hq
theorem split_rule {x y : Str} {t u : Tok} {Q : Value → Shared → Prop} (hF : Fr h₀ L s.heap m) (hN : News h₀ L s.heap news) (hy : (y.length == 0) = false)
    (h : ∀ D vs ws h' k, ws = Txt.split x y → StrsAre vs ws → vs.length = ws.length → vs.length ≤ x.length + 2 → (∀ z ∈ ws, z.length ≤ x.length) → Fr h₀ L h' m → News h₀ L h' ((D, W.listOf vs.toArray 0) :: news) → (∀ p ∈ news, p.1 < D) → Q (.ref D) { s with heap := h', toks := k }) (hsz : x.length + 2 ≤ sizeLine) :
    wpAny (model prog w) A (call (.builtin "str.split") [.str x t, .str y u]) Q E s :=
  KSpl.split1 hF hN hy (fun D l h' k e a F N lt => h D _ _ h' k e a a.length (by rw [a.length, e]; exact split_le _ _) (by rw [e]; exact fun _ h => part_short h) F N lt) hsz
theorem truthy_rule {x : Str} {t : Tok} {Q : Bool → Shared → Prop} (hf : x.length ≤ 16777216) (h1 : x.length ≠ 0 → ∀ k, Q true { s with toks := k }) (h0 : x.length = 0 → ∀ k, Q false { s with toks := k }) : wpAny (model prog w) A (truthy (.str x t)) Q E s := by
  by_cases h : x.length = 0
  · exact KXt.truthy (b := false) (by rw [h]; rfl) hf (h0 h)
  · exact KXt.truthy (b := true) (bne_iff_ne.mpr (by omega)) hf (h1 h)
theorem strs_at {vs : List Value} {ws : List Str} (hi : StrsAre vs ws) : ∀ j, j < ws.length → ∃ t, vs[j]? = some (.str (ws.getD j Str.empty) t) := by
  induction hi with
  | nil => intro j hj; cases hj
  | cons x t _ ih =>
    intro j hj
    cases j with
    | zero => exact ⟨t, rfl⟩
    | succ j => exact ih j (by simpa using hj)
theorem item0 {value slice : PySem.Expr} {l : Addr} {vs : List Value} {ws : List Str} {ne : Nat} {u : Tok} {Q : Value → Shared → Prop}
    (N : News h₀ L s.heap news) (hm : (l, W.listOf vs.toArray ne) ∈ news) (hi : StrsAre vs ws) (h0 : 1 ≤ ws.length) (h : ∀ u, Q (.str (ws.headD Str.empty) u) s)
    (hs : subscripted slice false (.ref l) (.int 0 u) = operate [.ref l, .int 0 u] (getItem (.ref l) (.int 0 u)) := by with_unfolding_all rfl) :
    wpAny (model prog w) A (subscriptTail value slice (.ref l) (.int 0 u)) Q E s := by
  have hl : s.heap.IsList l vs.toArray := ⟨_, (N _ hm).1, rfl, _, rfl⟩
  obtain ⟨t, e⟩ := strs_at hi 0 (by omega)
  have e' : ws.getD 0 Str.empty = ws.headD Str.empty := by cases ws <;> rfl
  rw [e'] at e
  exact tail_any hl.typeIs slot_list_getitem.lookup (wpAny_getItem_list hl (by omega) (by omega) (by simpa using e) (h t)) hs
theorem itemL {value slice : PySem.Expr} {l : Addr} {vs : List Value} {ws : List Str} {ne : Nat} {u : Tok} {Q : Value → Shared → Prop}
    (N : News h₀ L s.heap news) (hm : (l, W.listOf vs.toArray ne) ∈ news) (hi : StrsAre vs ws) (h0 : 1 ≤ ws.length) (h : ∀ u, Q (.str (ws.getLastD Str.empty) u) s)
    (hs : subscripted slice false (.ref l) (.int (-1) u) = operate [.ref l, .int (-1) u] (getItem (.ref l) (.int (-1) u)) := by with_unfolding_all rfl) :
    wpAny (model prog w) A (subscriptTail value slice (.ref l) (.int (-1) u)) Q E s := by
  have hl : s.heap.IsList l vs.toArray := ⟨_, (N _ hm).1, rfl, _, rfl⟩
  obtain ⟨t, e⟩ := strs_at hi (ws.length - 1) (by omega)
  have e' : ws.getD (ws.length - 1) Str.empty = ws.getLastD Str.empty := by
    rw [List.getLastD_eq_getLast?, List.getLast?_eq_getElem?, List.getD_eq_getElem?_getD]
  rw [e', ← hi.length] at e
  have hlen := hi.length
  exact tail_any hl.typeIs slot_list_getitem.lookup (wpAny_getItem_list_neg hl (by omega) (by rw [List.size_toArray]; omega) (by decide) (by
    have : ((-1 : Int) + (vs.toArray.size : Nat)).toNat = vs.length - 1 := by rw [List.size_toArray]; omega
    rw [this]; simpa using e) (h t)) hs
theorem seq0 {n : Nat} (h : 0 < n) : seqIndex? 0 n = some 0 := by unfold seqIndex?; simp [h]
theorem ki_del0 : ∀ {vs : List Value}, 1 ≤ vs.length → ki_delL vs 0 = some vs.tail
  | [], h => absurd h (by decide)
  | _ :: _, _ => rfl
theorem ki_delLast : ∀ {vs : List Value}, 1 ≤ vs.length → ki_delL vs (vs.length - 1) = some vs.dropLast
  | [], h => absurd h (by decide)
  | [_], _ => rfl
  | a :: b :: r, _ => by
    have ih := ki_delLast (vs := b :: r) (by simp)
    show (match ki_delL (b :: r) ((b :: r).length - 1) with | some q => some (a :: q) | none => none) = some (a :: (b :: r).dropLast)
    rw [ih]
theorem del0 {l : Addr} {vs : List Value} {ne : Nat} {u : Tok} {news' : List (Addr × Obj)} {Q : Unit → Shared → Prop} (F : Fr h₀ L s.heap m) (N : News h₀ L s.heap news) (h1 : 1 ≤ vs.length) (h2 : vs.length ≤ 8000)
    (U : Upd l (W.listOf vs.toArray ne) (W.listOf vs.tail.toArray (ne + 1)) news news') (h : ∀ h', Fr h₀ L h' m → News h₀ L h' news' → Q () { s with heap := h' }) : wpAny (model prog w) A (delItem (.ref l) (.int 0 u)) Q E s :=
  ki_del (k := 0) F N (by decide) (seq0 (by rw [List.size_toArray]; omega)) (by simpa using ki_del0 h1) U (by rw [sizeLine_eq]; simp; omega) h
theorem delL {l : Addr} {vs : List Value} {ne : Nat} {u : Tok} {news' : List (Addr × Obj)} {Q : Unit → Shared → Prop} (F : Fr h₀ L s.heap m) (N : News h₀ L s.heap news) (h1 : 1 ≤ vs.length) (h2 : vs.length ≤ 8000)
    (U : Upd l (W.listOf vs.toArray ne) (W.listOf vs.dropLast.toArray (ne + 1)) news news') (h : ∀ h', Fr h₀ L h' m → News h₀ L h' news' → Q () { s with heap := h' }) : wpAny (model prog w) A (delItem (.ref l) (.int (-1) u)) Q E s :=
  ki_del (k := vs.length - 1) F N (by decide) (by
    have := PySem.seqIndex_neg (k := -1) (n := vs.toArray.size) (by decide) (by rw [List.size_toArray]; omega)
    rw [this, List.size_toArray]; congr 1; omega) (by simpa using ki_delLast h1) U (by rw [sizeLine_eq]; simp; omega) h
end
theorem strs_tail {vs : List Value} {ws : List Str} (h : StrsAre vs ws) : StrsAre vs.tail ws.tail := by cases h with
  | nil => exact .nil
  | cons _ _ h => exact h
theorem strs_dropLast {vs : List Value} {ws : List Str} (h : StrsAre vs ws) : StrsAre vs.dropLast ws.dropLast := by
  rw [List.dropLast_eq_take, List.dropLast_eq_take, h.length]
  exact h.take' _
theorem headD_len {ws : List Str} {n : Nat} (h : ∀ z ∈ ws, z.length ≤ n) : (ws.headD Str.empty).length ≤ n := by
  cases ws with
  | nil => exact Nat.zero_le _
  | cons a l => exact h a (List.mem_cons_self ..)
theorem lastD_len {ws : List Str} {n : Nat} (h : ∀ z ∈ ws, z.length ≤ n) : (ws.getLastD Str.empty).length ≤ n := by
  cases ws with
  | nil => exact Nat.zero_le _
  | cons a l => exact h _ (by rw [List.getLastD_cons]; cases l with
    | nil => exact List.mem_cons_self ..
    | cons b l => exact List.mem_cons_of_mem _ (by rw [List.getLastD_cons]; exact List.getLastD_mem_cons))
theorem tail_all {ws : List Str} {n : Nat} (h : ∀ z ∈ ws, z.length ≤ n) : ∀ z ∈ ws.tail, z.length ≤ n := fun z hz => h z (List.mem_of_mem_tail hz)
theorem dropLast_all {ws : List Str} {n : Nat} (h : ∀ z ∈ ws, z.length ≤ n) : ∀ z ∈ ws.dropLast, z.length ≤ n := fun z hz => h z (List.dropLast_subset ws hz)
theorem el_two {want y : Str} {ws : List Str} {vs : List Value} (h2 : Txt.contains want y = true → 2 ≤ (Txt.split want y).length) (ho : (Builtin.Str.occurrences want y 0 want.length 1).isEmpty = false) (e : ws = Txt.split want y) (l : vs.length = ws.length) : 2 ≤ vs.length := by
  rw [l, e]
  exact h2 (by unfold Txt.contains; rw [ho]; rfl)
section
variable {prog : Program} {w : World} {A : Around} {E : Value → Shared → Prop} {s : Shared} {env : Env} {h₀ : Heap} {x : Str} {body : List Stmt} {Q : Flow → Shared → Prop}
/-- a loop over a list of texts that turns one int -/
theorem iter_strs {l : Addr} {vs : List Value} {ws : List Str} {nn : Nat} {m₀ : Str → Option Value} {news : List (Addr × Obj)} {c₀ : Int} {tc : Tok} (y : Str) (Inv : Nat → Int → Prop) (hyx : y ≠ x)
    (hh : A.handled = none) (hm : (l, W.listOf vs.toArray nn) ∈ news) (hi : StrsAre vs ws) (F : Fr h₀ env.locals s.heap m₀) (N : News h₀ env.locals s.heap news) (hy : m₀ y = some (.int c₀ tc)) (h0 : Inv 0 c₀)
    (turn : ∀ i wd t a ta h tk own, ws[i]? = some wd → Inv i a → Fr h₀ env.locals h (fun z => if z = x then some (.str wd t) else if z = y then some (.int a ta) else m₀ z) → News h₀ env.locals h (own ++ news) →
      wpAny (model prog w) A (execs body env) (InvPost h₀ env.locals (fun m' => ∃ a' t', m' y = some (.int a' t') ∧ (∀ z, z ≠ x → z ≠ y → m' z = m₀ z) ∧ Inv (i + 1) a') (own ++ news) { s with heap := h, toks := tk } Q) E { s with heap := h, toks := tk })
    (done : ∀ (u : Str → Option Value) a ta h tk, Inv ws.length a → Fr h₀ env.locals h (fun z => if z = x then u z else if z = y then some (.int a ta) else m₀ z) → News h₀ env.locals h news → Q .next { s with heap := h, toks := tk }) :
    wpAny (model prog w) A (pyIter (.ref l)) (fun it s₂ => LoopAtV prog w A h₀ env x body Q E it s₂) E s := by
  have hls : s.heap.IsList l vs.toArray := ⟨_, (N _ hm).1, rfl, _, rfl⟩
  have hlt : l < s.heap.objs.size := Heap.lt_size (N _ hm).1
  have hne : l ≠ s.heap.objs.size := Nat.ne_of_lt hlt
  have hlL : l ≠ env.locals := (N _ hm).2.1
  refine wpAny_pyIter_list hls ?_
  have W := Walks.list (prog := prog) (w := w) hh s.heap.objs.size l hne vs.toArray
  have hlen : vs.toArray.size = ws.length := by simp [hi.length]
  rw [hlen] at W
  let J : Nat → (Str → Option Value) → List (Addr × Obj) → Prop := fun i m₁ news₁ => news₁ = news ∧ ∃ a t, m₁ y = some (.int a t) ∧ (∀ z, z ≠ x → z ≠ y → m₁ z = m₀ z) ∧ Inv i a
  refine ⟨_, _, _, ws.length, _, _, m₀, news, J, rfl, W, ?_, ?_, ?_, ⟨⟨_, Heap.get?_push_size _ rfl, rfl, rfl⟩, hls.at fun o e => Heap.get?_push_of_some _ e⟩, F.push _, (fun p hp => ⟨Heap.get?_push_of_some _ (N p hp).1, (N p hp).2⟩), ⟨rfl, c₀, tc, hy, fun _ _ _ => rfl, h0⟩, ?_, ?_⟩
  · intro hm
    rcases List.mem_cons.mp hm with e | hm
    · exact absurd F.ns.lt (e ▸ Nat.lt_irrefl _)
    · exact hlL (List.mem_singleton.mp hm).symm
  · intro b hb
    rw [List.mem_singleton.mp hb]
    exact next_is_new F
  · intro p hp hI
    exact absurd (Heap.lt_size (N p hp).1) ((List.mem_singleton.mp hI) ▸ Nat.lt_irrefl _)
  · rintro i v m₁ news₁ s₁ own ⟨hh', tk', rfl⟩ hin hP ⟨rfl, a, ta, hya, hmz, hI⟩ hoff _ _ _ _ F₁ N₁
    have hlt' : i < ws.length := hin
    obtain ⟨t, hx⟩ := hi.get i ws[i] (by simp [hlt'])
    have hv : v = .str ws[i] t := by
      have hP' : vs[i]? = some v := by simpa using hP
      rw [hx] at hP'; exact (Option.some.inj hP').symm
    subst hv
    have e : (fun z => if z = x then some (Value.str ws[i] t) else m₁ z) = fun z => if z = x then some (Value.str ws[i] t) else if z = y then some (.int a ta) else m₀ z := by
      funext z
      by_cases h1 : z = x
      · simp [h1]
      · simp only [if_neg h1]
        by_cases h2 : z = y
        · subst h2; simp [hya]
        · simp only [if_neg h2]; exact hmz z h1 h2
    rw [e] at F₁
    refine wpAny_mono (turn i ws[i] t a ta hh' tk' own (by simp [hlt']) hI F₁ N₁) (fun f s₂ p => ?_) fun _ _ e => e
    have fin : InvEnd h₀ env.locals (fun m' => ∃ a' t', m' y = some (.int a' t') ∧ (∀ z, z ≠ x → z ≠ y → m' z = m₀ z) ∧ Inv (i + 1) a') (own ++ news₁) { s with heap := hh', toks := tk' } s₂ → LoopStepU h₀ env.locals [s.heap.objs.size] own (J (i + 1)) { s with heap := hh', toks := tk' } .next s₂ := by
      rintro ⟨h', tk, m', news', e, F', N', hn, hm⟩
      exact ⟨rfl, h', tk, m', news₁, e, F', fun p hp => N' p (hn p hp), hoff, rfl, hm⟩
    cases f with
    | ret v => exact .ret p
    | brk => exact .brk p
    | next => exact .next (fin p)
    | cont => exact .cont (fin p)
  · rintro h' tk m' news' F' N' _ ⟨rfl, a, ta, hya, hmz, hI⟩
    refine done m' a ta h' tk hI ?_ N'
    have e : (fun z => if z = x then m' z else if z = y then some (Value.int a ta) else m₀ z) = m' := by
      funext z
      by_cases h1 : z = x
      · simp [h1]
      · simp only [if_neg h1]
        by_cases h2 : z = y
        · subst h2; simp [hya]
        · simp only [if_neg h2]; exact (hmz z h1 h2).symm
    rw [e]; exact F'
end
/-! what _ellipsis_match computes -/
noncomputable def elLoop : List Str → Str → Int → Int → Bool
  | [], _, _, _ => true
  | w :: ws, got, sp, ep => if find4 got w sp ep < 0 then false else elLoop ws got (find4 got w sp ep + w.length) ep
noncomputable def elTail (ws : List Str) (got : Str) (sp ep : Int) : Bool := if ep < sp then false else elLoop ws got sp ep
noncomputable def elEnd (ws : List Str) (got : Str) (sp : Int) : Bool :=
  if (ws.getLastD Str.empty).length = 0 then elTail ws got sp got.length else
  if Txt.endswith got (ws.getLastD Str.empty) = true then elTail ws.dropLast got sp ((got.length : Int) - (ws.getLastD Str.empty).length) else false
noncomputable def elWs (ws : List Str) (got : Str) : Bool :=
  if (ws.headD Str.empty).length = 0 then elEnd ws got 0 else
  if Txt.startswith got (ws.headD Str.empty) = true then elEnd ws.tail got (ws.headD Str.empty).length else false
noncomputable def elF (want got : Str) : Bool := if Txt.contains want (Str.ofString "...") = true then elWs (Txt.split want (Str.ofString "...")) got else want == got
theorem el_a {want got : Str} {ws : List Str} (ho : (Builtin.Str.occurrences want (Str.ofString "...") 0 want.length 1).isEmpty = false) (e : ws = Txt.split want (Str.ofString "...")) : elF want got = elWs ws got := by
  unfold elF
  rw [if_pos (by unfold Txt.contains; rw [ho]; rfl), e]
theorem el_b {want got : Str} (ho : (Builtin.Str.occurrences want (Str.ofString "...") 0 want.length 1).isEmpty = true) : elF want got = (want == got) := by
  unfold elF
  rw [if_neg (by unfold Txt.contains; rw [ho]; decide)]
section
variable {ws : List Str} {got : Str} {sp ep : Int}
theorem w_starts (h : (ws.headD Str.empty).length ≠ 0) (hs : Txt.startswith got (ws.headD Str.empty) = true) : elWs ws got = elEnd ws.tail got (ws.headD Str.empty).length := by unfold elWs; rw [if_neg h, if_pos hs]
theorem w_nostart (h : (ws.headD Str.empty).length ≠ 0) (hs : Txt.startswith got (ws.headD Str.empty) = false) : elWs ws got = false := by unfold elWs; rw [if_neg h, if_neg (by rw [hs]; decide)]
theorem w_empty (h : (ws.headD Str.empty).length = 0) : elWs ws got = elEnd ws got 0 := by unfold elWs; rw [if_pos h]
theorem e_ends (h : (ws.getLastD Str.empty).length ≠ 0) (hs : Txt.endswith got (ws.getLastD Str.empty) = true) : elEnd ws got sp = elTail ws.dropLast got sp ((got.length : Int) - (ws.getLastD Str.empty).length) := by unfold elEnd; rw [if_neg h, if_pos hs]
theorem e_noend (h : (ws.getLastD Str.empty).length ≠ 0) (hs : Txt.endswith got (ws.getLastD Str.empty) = false) : elEnd ws got sp = false := by unfold elEnd; rw [if_neg h, if_neg (by rw [hs]; decide)]
theorem e_empty (h : (ws.getLastD Str.empty).length = 0) : elEnd ws got sp = elTail ws got sp got.length := by unfold elEnd; rw [if_pos h]
theorem t_gt (h : ep < sp) : elTail ws got sp ep = false := by unfold elTail; rw [if_pos h]
theorem t_le (h : ¬ ep < sp) : elTail ws got sp ep = elLoop ws got sp ep := by unfold elTail; rw [if_neg h]
theorem el_step {ws : List Str} {got wd : Str} {c a ep : Int} {i : Nat} (hw : ws[i]? = some wd) (hI : elLoop ws got c ep = elLoop (ws.drop i) got a ep) : elLoop ws got c ep = if find4 got wd a ep < 0 then false else elLoop (ws.drop (i + 1)) got (find4 got wd a ep + wd.length) ep := by
  obtain ⟨hi, rfl⟩ := List.getElem?_eq_some_iff.mp hw
  rw [hI, List.drop_eq_getElem_cons hi]
  rfl
end
section
variable {prog : Program} {w : World} {A : Around} {E : Value → Shared → Prop} {s : Shared} {env : Env} {h₀ : Heap} {x : Str} {body : List Stmt} {Q : Flow → Shared → Prop}
theorem el_iter {l : Addr} {vs : List Value} {ws : List Str} {nn : Nat} {m₀ : Str → Option Value} {news : List (Addr × Obj)} {c₀ ep : Int} {tc te : Tok} {n : Nat} (got : Str) (hyx : Str.ofString "startpos" ≠ x)
    (hh : A.handled = none) (hm : (l, W.listOf vs.toArray nn) ∈ news) (hi : StrsAre vs ws) (hn : ∀ z ∈ ws, z.length ≤ n) (F : Fr h₀ env.locals s.heap m₀) (N : News h₀ env.locals s.heap news) (hy : m₀ (Str.ofString "startpos") = some (.int c₀ tc)) (_hep : m₀ (Str.ofString "endpos") = some (.int ep te))
    (turn : ∀ i wd t a ta h tk own, ws[i]? = some wd → wd.length ≤ n → elLoop ws got c₀ ep = elLoop (ws.drop i) got a ep → Fr h₀ env.locals h (fun z => if z = x then some (.str wd t) else if z = Str.ofString "startpos" then some (.int a ta) else m₀ z) → News h₀ env.locals h (own ++ news) →
      wpAny (model prog w) A (execs body env) (InvPost h₀ env.locals (fun m' => ∃ a' t', m' (Str.ofString "startpos") = some (.int a' t') ∧ (∀ z, z ≠ x → z ≠ Str.ofString "startpos" → m' z = m₀ z) ∧ elLoop ws got c₀ ep = elLoop (ws.drop (i + 1)) got a' ep) (own ++ news) { s with heap := h, toks := tk } Q) E { s with heap := h, toks := tk })
    (done : ∀ (u : Str → Option Value) a ta h tk, elLoop ws got c₀ ep = true → Fr h₀ env.locals h (fun z => if z = x then u z else if z = Str.ofString "startpos" then some (.int a ta) else m₀ z) → News h₀ env.locals h news → Q .next { s with heap := h, toks := tk }) :
    wpAny (model prog w) A (pyIter (.ref l)) (fun it s₂ => LoopAtV prog w A h₀ env x body Q E it s₂) E s :=
  iter_strs (Str.ofString "startpos") (fun i a => elLoop ws got c₀ ep = elLoop (ws.drop i) got a ep) hyx hh hm hi F N hy rfl (fun i wd t a ta h tk own hw hI => turn i wd t a ta h tk own hw (hn _ (List.mem_of_getElem? hw)) hI)
    (fun u a ta h tk hI => done u a ta h tk (by rw [hI, List.drop_length]; rfl))
end

local macro_rules | `(tactic| walk_at "call builtin:str.split") => `(tactic| (k_here; refine split_rule (by k_asm) (by k_asm) (by decide +kernel) ?_ (by rw [sizeLine_eq]; omega); intro D9 vs9 ws9 h9 k9 e9 S9 l9 n9 z9 F9 N9 lt9; (have c9 := el_two (by assumption) (by assumption) e9 l9); (try k_lt lt9)))
local macro_rules | `(tactic| walk_at "subscriptTail Name Constant ref int") => `(tactic| (k_here; (with_reducible show wpAny _ _ (subscriptTail _ _ (Value.ref _) (Value.int 0 _)) _ _ _); refine item0 (by k_asm) (by k_mem) (by assumption) (by (try simp only [List.length_tail]); omega) ?_; (have b9 := headD_len (by assumption)); intro _))
local macro_rules | `(tactic| walk_at "subscriptTail Name UnaryOp ref int") => `(tactic| (k_here; (with_reducible show wpAny _ _ (subscriptTail _ _ (Value.ref _) (Value.int (-1) _)) _ _ _); refine itemL (by k_asm) (by k_mem) (by assumption) (by (try simp only [List.length_tail]); omega) ?_; (have b9 := lastD_len (by assumption)); intro _))
local macro_rules | `(tactic| walk_at "delItem ref int") => `(tactic| (k_here; (with_reducible show wpAny _ _ (delItem (Value.ref _) (Value.int 0 _)) _ _ _); refine' del0 ?k1 ?k2 ?k3 ?k4 ?k5 ?_; (case k1 => k_asm); (case k2 => k_asm); (case k5 => k_upd); (case k3 => omega); (case k4 => omega); intro h9 F9 N9; (have s9 := strs_tail (by assumption)); (have z9 := tail_all (by assumption))))
local macro_rules | `(tactic| walk_at "delItem ref int") => `(tactic| (k_here; (with_reducible show wpAny _ _ (delItem (Value.ref _) (Value.int (-1) _)) _ _ _); refine' delL ?k1 ?k2 ?k3 ?k4 ?k5 ?_; (case k1 => k_asm); (case k2 => k_asm); (case k5 => k_upd); (case k3 => (try simp only [List.length_tail]); omega); (case k4 => (try simp only [List.length_tail]); omega); intro h9 F9 N9; (have s9 := strs_dropLast (by assumption)); (have z9 := dropLast_all (by assumption))))
local macro_rules | `(tactic| walk_at "truthy str") => `(tactic| (k_here; refine truthy_rule (by omega) ?_ ?_ <;> (intro _ _)))
local macro_rules | `(tactic| walk_at "mine:elw") => `(tactic| (rw [el_a (by assumption) (by assumption)]; (first | rw [w_starts (by assumption) (by assumption)] | rw [w_nostart (by assumption) (by assumption)] | rw [w_empty (by assumption)]); (try (first | rw [e_ends (by assumption) (by assumption)] | rw [e_noend (by assumption) (by assumption)] | rw [e_empty (by assumption)])); (try (first | rw [t_gt (by omega)] | rw [t_le (by omega)]))))
local macro_rules | `(tactic| walk_at "exec For Name Name cons nil") => `(tactic| (k_here; (rename Fr _ _ _ _ => lF'); (with_unfolding_all refine' For_invVF lF' ?k1 ?k2 ?_; (case k1 => exact rfl); (case k2 => exact rfl); k_whole)))
local macro_rules | `(tactic| walk_at "pyIter ref") => `(tactic| (k_here; refine Stop.out ?_))
local macro_rules | `(tactic| walk_at "call builtin:str.find") => `(tactic| (k_here; refine find4_rule ?_; (try dsimp only)))
set_option maxHeartbeats 0 in
theorem el_ok (w : World) (p : Program) (loose : List Str) (mean : ExcName → Option Value) (mg mb : Str → Option Value) (news : List (Addr × Obj)) (want got : Str) (t t' : Tok) (hw : want.length ≤ 4000) (hg : got.length ≤ 4000) (h2 : Txt.contains want (Str.ofString "...") = true → 2 ≤ (Txt.split want (Str.ofString "...")).length) : CbClaim pw w (KK w.params) p loose mean mg mb 93 news [] (True) [.str want t, .str got t'] (fun _ => .bool (elF want got)) := by
  suffices h : PySem.Challenge.rw_rw0102_01 = PySem.Challenge.rw_rw0102_01 → CbClaim pw w (KK w.params) p loose mean mg mb 93 news [] (True) [.str want t, .str got t'] (fun _ => .bool (elF want got)) from h rfl
  k_fill
  intro _
  dsimp only [CbClaim, CbLists, CbRet]
  intros
  rename_i hret
  refine wpAny_call ?_
  k_dflt cell_enter
  k_steps
  rotate_left
  all_goals (try exact cb_retB hret (by walk_at "mine:elw") (by k_asm) (cb_drop (by k_asm) (by kcj_all)))
  rotate_right
  · exact cb_retB hret (el_b (by assumption)).symm (by k_asm) (cb_drop (by k_asm) (by kcj_all))
  all_goals
    refine Stop.inn ?_
    (rename Fr _ _ _ _ => lF'); (rename News _ _ _ _ => lN')
    refine el_iter got (by decide +kernel) (by rfl) (by k_mem) (by assumption) (by assumption) lF' lN' (by rfl) (by rfl) ?_ ?_
    · intro i wd tw a ta h tk own hwd hwl hI F₁ N₁
      k_steps
      · exact cb_retB hret (by walk_at "mine:elw"; rw [el_step (by assumption) (by assumption), if_pos (by assumption)]) (by k_asm) (cb_drop (by k_asm) (by kcj_all))
      · exact InvEnd.intro (by k_asm) (by k_asm) (by first | exact fun p hp => hp | kcj_all) ⟨_, _, by rfl, by intro z h1 h2; simp only [if_neg h1, if_neg h2], by rw [el_step (by assumption) (by assumption), if_neg (by assumption)]⟩
    · intro u a ta h tk hI F₁ N₁
      k_steps
      exact cb_retB hret (by walk_at "mine:elw"; exact hI.symm) (by k_asm) (cb_drop (by k_asm) (by kcj_all))
end Mine
namespace Mine
open PySem PySem.W PySem.Calls PyProof.Rows PyProof.V
local macro_rules | `(tactic| walk_at "mine:enterC") => `(tactic| (refine' code_defC ?k1 ?k2 ?k3 ?k4 ?k5 ?kA ?kF ?kK ?k6 ?k7 ?k8 ?k9 ?kB ?kD ?_ ?c2 ?c3 ?c4; (case kA => exact rfl); (case kF => exact rfl); (case kK => assumption); (case k1 => k_asm); (case k2 => k_asm); (case k3 => k_asm); (case k4 => k_asm); (case k5 => k_asm); (case k6 => k_is); (case k7 => k_is); (case k8 => ktr_room); (case k9 => exact BindsTo.of_eq rfl); (case kB => exact rfl); (case kD => decide +kernel); (case c2 => exact rfl); (case c3 => exact rfl); (case c4 => exact rfl); k_whole; intro g' L' h' tk' cells' FG' F' N' Y' B' X' T' l1; (try k_lt l1); k_cells Y'; (try simp only [List.cons_append, List.nil_append] at N'); (try dsimp only); (try k_lift B'); (try k_fold)))

section
variable {prog : Program} {w : World} {A : Around} {E : Value → Shared → Prop} {s : Shared} {env : Env} {h₀ : Heap} {body : List Stmt} {Q : Flow → Shared → Prop}
/-- a loop over enumerate(a list of the ledger): the state between two turns is J's -/
theorem enum_loop {elts : List PySem.Expr} {kk : Nat} {pos : Pos} {l : Addr} {vs : List Value} {nl : Nat} {m₀ : Str → Option Value} {news : List (Addr × Obj)} (J : (Str → Option Value) → List (Addr × Obj) → Prop)
    (hh : A.handled = none) (F : Fr h₀ env.locals s.heap m₀) (N : News h₀ env.locals s.heap news) (hm : (l, W.listOf vs.toArray nl) ∈ news) (hj : J m₀ news)
    (turn : ∀ (i : Nat) v T t m₁ nx h tk own, vs[i]? = some v → IsTup h T #[.int (i : Int) t, v] → nx.map (·.1) = news.map (·.1) → (∀ p ∈ own, p.1 = l ∨ ∀ q ∈ news, p.1 ≠ q.1) → J m₁ nx → Fr h₀ env.locals h m₁ → News h₀ env.locals h (nx ++ own) →
      wpAny (model prog w) A (assign (.Tuple elts kk pos) env (.ref T)) (fun _ s₃ => wpAny (model prog w) A (execs body env) (InvPostN h₀ env.locals J own (news.map (·.1)) { s with heap := h, toks := tk } Q) E s₃) E { s with heap := h, toks := tk })
    (done : ∀ m₁ nx h tk, J m₁ nx → Fr h₀ env.locals h m₁ → News h₀ env.locals h nx → Q .next { s with heap := h, toks := tk }) :
    wpAny (model prog w) A (call (.type "enumerate") [.ref l]) (fun xv s₁ => wpAny (model prog w) A (pyIter xv) (fun it s₂ => TurnsAt prog w A h₀ env (.Tuple elts kk pos) body Q E it s₂) E s₁) E s := by
  have hax := N _ hm
  have hl : s.heap.IsList l vs.toArray := ⟨_, hax.1, rfl, nl, rfl⟩
  have hlt : l < s.heap.objs.size := Heap.lt_size hax.1
  have hLs : env.locals < s.heap.objs.size := F.ns.lt
  refine call_enumerate_list hl fun h' hE hI hsz hk => ?_
  refine wpAny_pyIter_enum hE ?_
  have U := KTurns.ofWalksU (elts := elts) (k := kk) (pos := pos) (WalksT.enumerate (prog := prog) (w := w) hh (s.heap.objs.size + 1) s.heap.objs.size l (Nat.succ_ne_self _) (ktu_ne 1 hlt) (Nat.ne_of_lt hlt) vs.toArray).toU
  have hnewI : ∀ b, b = s.heap.objs.size + 1 ∨ b = s.heap.objs.size → ∀ p ∈ news, p.1 ≠ b := fun b hb p hp e => by
    have hlp := Heap.lt_size (N p hp).1
    rcases hb with hb | hb
    · exact ktu_ne 1 hlp (e.trans hb)
    · exact Nat.ne_of_lt hlp (e.trans hb)
  let J' : Nat → (Str → Option Value) → List (Addr × Obj) → Prop := fun _ m₁ nx => nx.map (·.1) = news.map (·.1) ∧ J m₁ nx
  refine ⟨_, _, _, vs.toArray.size, _, _, _, m₀, news, J', rfl, U, ?_, ?_, ?_, ⟨⟨.none, hE⟩, hI, hl.at fun o e => hk l o e⟩, F.keeps hk, N.grown hk, ⟨rfl, hj⟩, ?_, ?_⟩
  · intro hI'
    have hb' : env.locals = s.heap.objs.size + 1 ∨ env.locals = s.heap.objs.size ∨ env.locals = l := by simpa using hI'
    rcases hb' with e | e | e
    · exact ktu_ne 1 hLs e
    · exact Nat.ne_of_lt hLs e
    · exact hax.2.1 e.symm
  · intro b hb
    have hb' : b = s.heap.objs.size + 1 ∨ b = s.heap.objs.size := by simpa using hb
    rcases hb' with rfl | rfl
    · exact ktu_new F (Nat.le_add_right _ _)
    · exact ktu_new F (Nat.le_refl _)
  · intro p hp hI'
    have hb' : p.1 = s.heap.objs.size + 1 ∨ p.1 = s.heap.objs.size := by simpa using hI'
    exact hnewI _ hb' p hp rfl
  · rintro i v m₁ nx h₁ tk₁ own hi ⟨T, vals, rfl, ⟨t, x, hx, rfl⟩, hT⟩ ⟨hadr, hJ⟩ hoff hown hget _ _ F₁ N₁
    have hx' : vs[i]? = some x := by simpa using hx
    refine wpAny_mono (turn i x T t m₁ nx h₁ tk₁ own hx' hT hadr (fun p hp => ?_) hJ F₁ (fun p hp => N₁ p ((List.mem_append.mp hp).elim (fun h => List.mem_append.mpr (.inr h)) fun h => List.mem_append.mpr (.inl h)))) (fun _ s₃ h₃ => wpAny_mono h₃ (fun f s₂ p => ?_) fun _ _ e => e) fun _ _ e => e
    · have hb' : p.1 = s.heap.objs.size + 1 ∨ p.1 = s.heap.objs.size ∨ p.1 = l := by simpa using hown p hp
      rcases hb' with e | e | e
      · exact .inr fun q hq e' => hnewI _ (.inl e) q hq e'.symm
      · exact .inr fun q hq e' => hnewI _ (.inr e) q hq e'.symm
      · exact .inl e
    · have fin : InvEndN h₀ env.locals J own (news.map (·.1)) { s with heap := h₁, toks := tk₁ } s₂ → LoopStepU h₀ env.locals [s.heap.objs.size + 1, s.heap.objs.size] own (J' (i + 1)) { s with heap := h₁, toks := tk₁ } .next s₂ := by
        rintro ⟨h', tk, m', news', nx', e, F', N', hn, ho, ha, hm⟩
        refine ⟨rfl, h', tk, m', nx', e, F', fun p hp => N' p ((List.mem_append.mp hp).elim (ho p) (hn p)), fun p hp hq => ?_, ha, hm⟩
        have hb' : p.1 = s.heap.objs.size + 1 ∨ p.1 = s.heap.objs.size := by simpa using hq
        have h1 : p.1 ∈ nx'.map (·.1) := List.mem_map.mpr ⟨p, hp, rfl⟩
        rw [ha] at h1
        obtain ⟨q, hq1, hq2⟩ := List.mem_map.mp h1
        exact hnewI _ hb' q hq1 hq2
      cases f with
      | ret v => exact .ret p
      | brk => exact .brk p
      | next => exact .next (fin p)
      | cont => exact .cont (fin p)
  · rintro h' tk m' news' F' N' _ ⟨_, hJ⟩
    exact done m' news' h' tk hJ F' N'
end
/-- four ints, none below 0 -/
noncomputable def Four (d : Addr) (post : List (Addr × Obj)) (m₀ : Str → Option Value) (m : Str → Option Value) (nx : List (Addr × Obj)) : Prop :=
  ∃ us l nn, nx = (d, W.listOf us.toArray nn) :: post ∧ IntsAre us l ∧ l.length = 4 ∧ (∀ z ∈ l, (0 : Int) ≤ z) ∧ ∀ z, z ≠ Str.ofString "k" → z ≠ Str.ofString "x" → m z = m₀ z
theorem four_map {m₁ m₀ : Str → Option Value} (hm : ∀ z, z ≠ Str.ofString "k" → z ≠ Str.ofString "x" → m₁ z = m₀ z) : m₁ = fun z => if z = Str.ofString "k" then m₁ z else if [Str.ofString "x"].contains z then m₁ z else m₀ z := by
  funext z
  by_cases h1 : z = Str.ofString "k"
  · simp [h1]
  · simp only [if_neg h1]
    by_cases h2 : z = Str.ofString "x"
    · simp [h2]
    · rw [if_neg (by simpa using h2)]
      exact hm z h1 h2
section
variable {prog : Program} {w : World} {A : Around} {E : Value → Shared → Prop} {s : Shared} {env : Env} {h₀ : Heap} {body : List Stmt} {Q : Flow → Shared → Prop}
theorem enum_four {elts : List PySem.Expr} {kk : Nat} {pos : Pos} {d D : Addr} {svs us₀ : List Value} {script l₀ : List Int} {nl nn₀ : Nat} {m₀ : Str → Option Value} {news : List (Addr × Obj)}
    (hh : A.handled = none) (F : Fr h₀ env.locals s.heap m₀) (N : News h₀ env.locals s.heap ((D, W.listOf svs.toArray nl) :: (d, W.listOf us₀.toArray nn₀) :: news)) (hDd : D ≠ d) (hnd : ∀ p ∈ news, p.1 ≠ d) (hs : IntsAre svs script) (h0 : IntsAre us₀ l₀) (h4 : l₀.length = 4) (hp : ∀ z ∈ l₀, (0 : Int) ≤ z)
    (turn : ∀ (i : Nat) n tn T t us l nn (u : Str → Option Value) h tk own, IsTup h T #[.int (i : Int) t, .int n tn] → IntsAre us l → l.length = 4 → (∀ z ∈ l, (0 : Int) ≤ z) → us.length = 4 → (∀ p ∈ ((D, W.listOf svs.toArray nl) :: news) ++ own, p.1 ≠ d) →
      Fr h₀ env.locals h (fun z => if z = Str.ofString "k" then u z else if [Str.ofString "x"].contains z then u z else m₀ z) → News h₀ env.locals h ((d, W.listOf us.toArray nn) :: (((D, W.listOf svs.toArray nl) :: news) ++ own)) →
      wpAny (model prog w) A (assign (.Tuple elts kk pos) env (.ref T)) (fun _ s₃ => wpAny (model prog w) A (execs body env) (InvPostN h₀ env.locals (Four d ((D, W.listOf svs.toArray nl) :: news) m₀) own (d :: D :: news.map (·.1)) { s with heap := h, toks := tk } Q) E s₃) E { s with heap := h, toks := tk })
    (done : ∀ us l nn (u : Str → Option Value) h tk, IntsAre us l → l.length = 4 → (∀ z ∈ l, (0 : Int) ≤ z) → Fr h₀ env.locals h (fun z => if z = Str.ofString "k" then u z else if [Str.ofString "x"].contains z then u z else m₀ z) → News h₀ env.locals h ((d, W.listOf us.toArray nn) :: (D, W.listOf svs.toArray nl) :: news) → Q .next { s with heap := h, toks := tk }) :
    wpAny (model prog w) A (call (.type "enumerate") [.ref D]) (fun xv s₁ => wpAny (model prog w) A (pyIter xv) (fun it s₂ => TurnsAt prog w A h₀ env (.Tuple elts kk pos) body Q E it s₂) E s₁) E s := by
  have N2 : News h₀ env.locals s.heap ((d, W.listOf us₀.toArray nn₀) :: (D, W.listOf svs.toArray nl) :: news) := fun p hp => N p (by
    rcases List.mem_cons.mp hp with rfl | hp
    · exact .tail _ (.head _)
    · rcases List.mem_cons.mp hp with rfl | hp
      · exact .head _
      · exact .tail _ (.tail _ hp))
  refine enum_loop (vs := svs) (nl := nl) (Four d ((D, W.listOf svs.toArray nl) :: news) m₀) hh F N2 (.tail _ (.head _)) ⟨us₀, l₀, nn₀, rfl, h0, h4, hp, fun _ _ _ => rfl⟩ ?_ ?_
  · rintro i v T t m₁ nx h tk own hv hT _ hoff ⟨us, l, nn, rfl, hu, hl4, hpos, hm⟩ F₁ N₁
    obtain ⟨n, tn, rfl⟩ : ∃ n tn, v = .int n tn := by
      have hlt : i < script.length := by
        have := (List.getElem?_eq_some_iff.mp hv).1
        rw [hs.length] at this; exact this
      obtain ⟨tn, e⟩ := hs.get i script[i] (by simp [hlt])
      rw [e] at hv
      exact ⟨_, _, (Option.some.inj hv).symm⟩
    refine turn i n tn T t us l nn m₁ h tk own hT hu hl4 hpos (by rw [hu.length]; exact hl4) (fun p hp => ?_) ?_ N₁
    · rcases List.mem_append.mp hp with hp | hp
      · rcases List.mem_cons.mp hp with rfl | hp
        · exact hDd
        · exact hnd p hp
      · rcases hoff p hp with e | e
        · rw [e]; exact hDd
        · exact e _ (.head _)
    · rw [← four_map hm]; exact F₁
  · rintro m₁ nx h tk ⟨us, l, nn, rfl, hu, hl4, hpos, hm⟩ F₁ N₁
    refine done us l nn m₁ h tk hu hl4 hpos ?_ N₁
    rw [← four_map hm]; exact F₁
end
theorem ki_setSome : ∀ {us : List Value} {j : Nat} {v : Value}, j < us.length → ki_setL us j v = some (us.set j v)
  | [], _, _, h => absurd h (Nat.not_lt_zero _)
  | _ :: _, 0, _, _ => rfl
  | x :: r, j + 1, v, h => by
    have ih := ki_setSome (us := r) (j := j) (v := v) (by simpa using h)
    show (match ki_setL r j v with | some q => some (x :: q) | none => none) = some (x :: r.set j v)
    rw [ih]
theorem ints_set : ∀ {us : List Value} {l : List Int} {j : Nat} {a : Int} {t : Tok}, IntsAre us l → IntsAre (us.set j (.int a t)) (l.set j a)
  | _, _, _, _, _, .nil => .nil
  | _, _, 0, a, t, .cons _ _ h => .cons a t h
  | _, _, j + 1, _, _, .cons x u h => .cons x u (ints_set h)
theorem set_rule {prog : Program} {w : World} {A : Around} {E : Value → Shared → Prop} {s : Shared} {h₀ : Heap} {L d : Addr} {m : Str → Option Value} {rest : List (Addr × Obj)} {us : List Value} {nn : Nat} {k : Int} {t : Tok} {v : Value} {Q : Unit → Shared → Prop}
    (F : Fr h₀ L s.heap m) (N : News h₀ L s.heap ((d, W.listOf us.toArray nn) :: rest)) (hall : ∀ p ∈ rest, p.1 ≠ d) (h0 : 0 ≤ k) (hk : k < us.length) (hb : us.length ≤ 1000)
    (h : ∀ h', Fr h₀ L h' m → News h₀ L h' ((d, W.listOf (us.set k.toNat v).toArray nn) :: rest) → Q () { s with heap := h' }) : wpAny (model prog w) A (setItem (.ref d) (.int k t) v) Q E s :=
  ki_set F N h0 (by omega) (by simpa using ki_setSome (us := us) (j := k.toNat) (v := v) (by omega)) (Upd.head hall) h
theorem mod4 (i : Nat) : 0 ≤ (i : Int).fmod 4 ∧ (i : Int).fmod 4 < 4 := ⟨Int.fmod_nonneg_of_pos _ (by decide), Int.fmod_lt_of_pos _ (by decide)⟩
theorem four_end {d : Addr} {post own : List (Addr × Obj)} {m₀ m' : Str → Option Value} {h₀ h' : Heap} {L : Addr} {s₁ : Shared} {tk nn : Nat} {us : List Value} {l : List Int}
    (F : Fr h₀ L h' m') (N : News h₀ L h' ((d, W.listOf us.toArray nn) :: (post ++ own))) (hu : IntsAre us l) (h4 : l.length = 4) (hp : ∀ z ∈ l, (0 : Int) ≤ z) (hm : ∀ z, z ≠ Str.ofString "k" → z ≠ Str.ofString "x" → m' z = m₀ z) :
    InvEndN h₀ L (Four d post m₀) own (d :: post.map (·.1)) s₁ { s₁ with heap := h', toks := tk } :=
  ⟨h', tk, m', _, (d, W.listOf us.toArray nn) :: post, rfl, F, N, (fun p hp => by
    rcases List.mem_cons.mp hp with rfl | hp
    · exact List.mem_cons_self ..
    · exact List.mem_cons_of_mem _ (List.mem_append_left _ hp)), (fun p hp => List.mem_cons_of_mem _ (List.mem_append_right _ hp)), rfl, us, l, nn, rfl, hu, h4, hp, hm⟩
theorem nonneg_set {l : List Int} {j : Nat} {n : Int} (h : ∀ z ∈ l, (0 : Int) ≤ z) : ∀ z ∈ l.set j (l.getD j 0 + n.fmod (10 ^ Int.toNat 6)), (0 : Int) ≤ z := by
  intro z hz
  rcases List.mem_or_eq_of_mem_set hz with hz | rfl
  · exact h z hz
  · have h1 : 0 ≤ l.getD j 0 := by
      rw [List.getD_eq_getElem?_getD]
      cases e : l[j]? with
      | none => exact Int.le_refl _
      | some y => exact h y (List.mem_of_getElem? e)
    have h2 : 0 ≤ n.fmod (10 ^ Int.toNat 6) := Int.fmod_nonneg_of_pos _ (by decide)
    omega
noncomputable abbrev CtD (prog : Program) (w : World) (K : Frag) (p : Program) (loose : List Str) (mean : ExcName → Option Value) (mg mb : Str → Option Value) (f : Addr) (news : List (Addr × Obj)) (k : Nat) (sa : Addr) (svs : List Value) : Prop :=
  ∀ (dp un : Nat) (gd : Option (List Code)) (cn : Str) (cs : Scope) (a : Addr) (ccd : Value) (cl : List (Str × Addr)) (outer : List Env) (A₀ : Around) (base h₀ : Heap) (L : Addr) (m : Str → Option Value) (s : Shared) (Q E : Value → Shared → Prop),
    Below A₀ base outer h₀ → Fr h₀ L s.heap m → K.In h₀ → News h₀ L s.heap news → Top p loose mean mg mb h₀ → h₀.IsList sa svs.toArray → cs.kind = .function → dp + k < recursionLimit → un + 8 * k < cLine →
      (∀ (b : Addr) (us : List Value) (l : List Int) (ne : Nat) (h' : Heap) (tk' : Nat), Fr h₀ L h' m → News h₀ L h' ((b, W.listOf us.toArray ne) :: news) → (∀ p ∈ news, p.1 ≠ b) → IntsAre us l → l.length = 4 → (∀ z ∈ l, (0 : Int) ≤ z) → Q (.ref b) { s with heap := h', toks := tk' }) →
      wpAny (model prog w) (ktrTop dp un gd cn cs L a ccd cl outer) (call (.ref f) [.ref sa]) Q E s
theorem pick63 {svs : List Value} {script : List Int} (hs : IntsAre svs script) (hl : svs.length ≤ 63) : slicePick svs.toArray none (some 63) none = svs.toArray := by
  rw [kms_pick_eq]
  unfold kms_pick kms_lo kms_hi
  simp
  exact List.take_of_length_le (by omega)

local macro_rules | `(tactic| walk_at "subscriptTail Name Slice ref ref") => `(tactic| (k_here; k_dflt (refine' kmk_slice ?k1 ?k2 ?k3 ?k4 ?k5 ?_ ?k6 ?k7 ?k8; (case k1 => k_asm); (case k2 => k_asm); (case k3 => (refine Heap.IsList.at (by assumption) fun o e => ?_; exact Fr.keep (by assumption) _ _ (Fr.keep (by assumption) _ _ e))); (case k4 => kmk_part); (case k5 => kmk_part); (case k6 => with_unfolding_all rfl); (case k7 => (intro _; rfl)); (case k8 => (rw [List.size_toArray, sizeLine_eq]; omega))); intro D9 h9 F9 N9 l9; (rw [pick63 (by assumption) (by omega)] at N9); (try k_lt l9)))
local macro_rules | `(tactic| walk_at "exec For Tuple Call cons nil") => `(tactic| (k_here; (rename Fr _ _ _ _ => lF'); (with_unfolding_all refine' For_turns lF' ?_; k_whole)))
local macro_rules | `(tactic| walk_at "call type:enumerate") => `(tactic| (k_here; refine Stop.out ?_))
local macro_rules | `(tactic| walk_at "setItem ref int") => `(tactic| (k_here; refine set_rule (by k_asm) (by k_asm) (by assumption) (mod4 _).1 (Int.lt_of_lt_of_le (mod4 _).2 (by omega)) (by omega) ?_; intro h9 F9 N9; (try dsimp only)))
set_option maxHeartbeats 0 in
theorem drawn_ok (w : World) (p : Program) (loose : List Str) (mean : ExcName → Option Value) (mg mb : Str → Option Value) (news : List (Addr × Obj)) (sa : Addr) (svs : List Value) (script : List Int) (hs : IntsAre svs script) (hl : svs.length ≤ 63) : CtD pw w (KK w.params) p loose mean mg mb 100 news 1 sa svs := by
  suffices h : PySem.Challenge.rw_rw0102_01 = PySem.Challenge.rw_rw0102_01 → CtD pw w (KK w.params) p loose mean mg mb 100 news 1 sa svs from h rfl
  k_fill
  intro _
  dsimp only [CtD]
  intros
  rename_i hsl _ _ _ hret
  refine wpAny_call ?_
  k_dflt cell_enter
  (rename Fr _ _ _ _ => lF0)
  k_steps
  refine Stop.inn ?_
  (rename Fr _ _ _ _ => lF'); (rename News _ _ _ _ => lN')
  refine enum_four (us₀ := [.int 88291 _, .int 149048 _, .int 25154 _, .int 3 _]) (l₀ := [88291, 149048, 25154, 3]) (by rfl) lF' lN' (by k_ne) (by k_all) hs (.cons _ _ (.cons _ _ (.cons _ _ (.cons _ _ .nil)))) rfl (by decide) ?_ ?_
  · intro i n tn T t us l nn u h tk own hT hu hl4 hpos hu4 hall F₁ N₁
    k_steps
    exact four_end (by k_asm) (by k_asm) (ints_set hu) (by rw [List.length_set]; exact hl4) (nonneg_set hpos) (by intro z h1 h2; simp only [if_neg h1, if_neg h2]; simp [h2])
  · intro us l nn u h tk hu hl4 hpos F₁ N₁
    k_steps
    exact hret _ _ _ _ _ _ (by k_asm) (cb_drop (by k_asm) (by kcj_all)) (by k_all) hu hl4 hpos
end Mine
namespace Mine
open PySem PySem.W PySem.Calls PyProof.Rows PyProof.V
local macro_rules | `(tactic| walk_at "mine:enterC") => `(tactic| (refine' code_defC ?k1 ?k2 ?k3 ?k4 ?k5 ?kA ?kF ?kK ?k6 ?k7 ?k8 ?k9 ?kB ?kD ?_ ?c2 ?c3 ?c4; (case kA => exact rfl); (case kF => exact rfl); (case kK => assumption); (case k1 => k_asm); (case k2 => k_asm); (case k3 => k_asm); (case k4 => k_asm); (case k5 => k_asm); (case k6 => k_is); (case k7 => k_is); (case k8 => ktr_room); (case k9 => exact BindsTo.of_eq rfl); (case kB => exact rfl); (case kD => decide +kernel); (case c2 => exact rfl); (case c3 => exact rfl); (case c4 => exact rfl); k_whole; intro g' L' h' tk' cells' FG' F' N' Y' B' X' T' l1; (try k_lt l1); k_cells Y'; (try simp only [List.cons_append, List.nil_append] at N'); (try dsimp only); (try k_lift B'); (try k_fold)))

/-- the state of a loop that keeps a list of ints -/
noncomputable def LsI (Inv : Nat → List Int → Prop) (d : Addr) (post : List (Addr × Obj)) (x : Str) (stored : List Str) (m₀ : Str → Option Value) (i : Nat) (m : Str → Option Value) (nx : List (Addr × Obj)) : Prop :=
  ∃ us l nn, nx = (d, W.listOf us.toArray nn) :: post ∧ IntsAre us l ∧ (∀ z, z ≠ x → stored.contains z = false → m z = m₀ z) ∧ Inv i l
section
variable {prog : Program} {w : World} {A : Around} {E : Value → Shared → Prop} {s : Shared} {env : Env} {h₀ : Heap} {x : Str} {px : Pos} {body orelse : List Stmt} {Q : Flow → Shared → Prop}
theorem for_ints {r : Addr} {b₀ : Int} {t₀ u₀ v₀ : Tok} {n : Nat} {m₀ : Str → Option Value} {d : Addr} {vs₀ : List Value} {l₀ : List Int} {nn₀ : Nat} {post : List (Addr × Obj)} (stored : List Str) (Inv : Nat → List Int → Prop)
    (hh : A.handled = none) (hr : IsRange s.heap r 0 b₀ 1 t₀ u₀ v₀) (hsmall : Builtin.Range.small 0 b₀ 1 = true) (hn : Builtin.Range.rangeSize 0 b₀ 1 = (n : Int)) (F : Fr h₀ env.locals s.heap m₀) (N : News h₀ env.locals s.heap ((d, W.listOf vs₀.toArray nn₀) :: post))
    (hpd : ∀ p ∈ post, p.1 ≠ d) (hi : IntsAre vs₀ l₀) (h0 : Inv 0 l₀)
    (turn : ∀ (i : Nat) t us l nn (u : Str → Option Value) h tk own, i < n → (0 : Int) ≤ (i : Int) → (i : Int) < (n : Int) → Inv i l → IntsAre us l → (∀ p ∈ post ++ own, p.1 ≠ d) → Fr h₀ env.locals h (fun z => if z = x then some (.int (i : Int) t) else if stored.contains z then u z else m₀ z) → News h₀ env.locals h ((d, W.listOf us.toArray nn) :: (post ++ own)) →
      wpAny (model prog w) A (execs body env) (InvPostN h₀ env.locals (LsI Inv d post x stored m₀ (i + 1)) own (d :: post.map (·.1)) { s with heap := h, toks := tk } Q) E { s with heap := h, toks := tk })
    (done : ∀ us l nn (u : Str → Option Value) h tk, Inv n l → IntsAre us l → Fr h₀ env.locals h (fun z => if z = x then u z else if stored.contains z then u z else m₀ z) → News h₀ env.locals h ((d, W.listOf us.toArray nn) :: post) → Q .next { s with heap := h, toks := tk }) :
    wpAny (model prog w) A (pyIter (.ref r)) (fun it s₂ => LoopAtV prog w A h₀ env x body Q E it s₂) E s := by
  refine kpr_invN (n := n) (LsI Inv d post x stored m₀) hh hr hsmall hn F N ⟨vs₀, l₀, nn₀, rfl, hi, fun _ _ _ => rfl, h0⟩ ?_ ?_
  · rintro i k t m₁ nx h tk own hk hoff ⟨us, l, nn, rfl, hs, hm, hI⟩ F₁ N₁
    have hlt : i < n := by
      have := (List.getElem?_eq_some_iff.mp hk).1
      rwa [rangeKs_length] at this
    have hki : k = (i : Int) := by
      have e : (rangeKs 0 n)[i]? = some (0 + (i : Int)) := by simp [rangeKs, hlt]
      rw [e] at hk
      have := Option.some.inj hk
      omega
    subst hki
    rw [kpf_map0 hm] at F₁
    exact turn i t us l nn m₁ h tk own hlt (by omega) (by omega) hI hs (fun p hp => (List.mem_append.mp hp).elim (hpd p) fun hp => hoff p hp d (.head _)) F₁ N₁
  · rintro m₁ nx h tk ⟨us, l, nn, rfl, hs, hm, hI⟩ F₁ N₁
    rw [rangeKs_length] at hI
    refine done us l nn m₁ h tk hI hs ?_ N₁
    have e := kpf_done0 hm
    exact e.symm ▸ F₁
end
theorem ls_end {Inv : Nat → List Int → Prop} {h₀ h' : Heap} {L d : Addr} {m' m₀ : Str → Option Value} {nn : Nat} {post own : List (Addr × Obj)} {us : List Value} {l : List Int} {x : Str} {stored : List Str} {i tk : Nat} {s₁ : Shared}
    (F : Fr h₀ L h' m') (N : News h₀ L h' ((d, W.listOf us.toArray nn) :: (post ++ own))) (hs : IntsAre us l) (hm : ∀ z, z ≠ x → stored.contains z = false → m' z = m₀ z) (hI : Inv (i + 1) l) :
    InvEndN h₀ L (LsI Inv d post x stored m₀ (i + 1)) own (d :: post.map (·.1)) s₁ { s₁ with heap := h', toks := tk } :=
  ⟨h', tk, m', _, (d, W.listOf us.toArray nn) :: post, rfl, F, N, (fun p hp => by
    rcases List.mem_cons.mp hp with rfl | hp
    · exact List.mem_cons_self ..
    · exact List.mem_cons_of_mem _ (List.mem_append_left _ hp)), (fun p hp => List.mem_cons_of_mem _ (List.mem_append_right _ hp)), rfl, us, l, nn, rfl, hs, hm, hI⟩
noncomputable def undStep (k : Nat) (l : List Int) (f : Nat) : List Int := if ((f : Int).fdiv (2 ^ ((k : Nat) : Int).toNat)).fmod 2 = 1 then l.set f (l.getD f 0 - l.getD ((f : Int) - 2 ^ ((k : Nat) : Int).toNat).toNat 0) else l
noncomputable def undI (k f : Nat) (l : List Int) : List Int := (List.range f).foldl (undStep k) l
noncomputable def undK (k : Nat) (l : List Int) : List Int := (List.range k).foldl (fun l k => undI k 16 l) l
noncomputable def undF (l : List Int) : List Int := undK 4 l
theorem undI_succ (k f : Nat) (l : List Int) : undI k (f + 1) l = undStep k (undI k f l) f := by unfold undI; rw [List.range_succ, List.foldl_append]; rfl
theorem undK_succ (k : Nat) (l : List Int) : undK (k + 1) l = undI k 16 (undK k l) := by unfold undK; rw [List.range_succ, List.foldl_append]; rfl
theorem undStep_len (k : Nat) (l : List Int) (f : Nat) : (undStep k l f).length = l.length := by unfold undStep; split <;> simp
theorem undI_len (k f : Nat) (l : List Int) : (undI k f l).length = l.length := by
  induction f with
  | zero => rfl
  | succ f ih => rw [undI_succ, undStep_len, ih]
theorem undK_len (k : Nat) (l : List Int) : (undK k l).length = l.length := by
  induction k with
  | zero => rfl
  | succ k ih => rw [undK_succ, undI_len, ih]
theorem und_lo {k f : Nat} (hk : k < 4) (hf : f < 16) (h : ((f : Int).fdiv (2 ^ ((k : Nat) : Int).toNat)).fmod 2 = 1) : 0 ≤ (f : Int) - 2 ^ ((k : Nat) : Int).toNat ∧ (f : Int) - 2 ^ ((k : Nat) : Int).toNat < 16 := by
  have key : ∀ k : Nat, k < 4 → ∀ f : Nat, f < 16 → ((f : Int).fdiv (2 ^ ((k : Nat) : Int).toNat)).fmod 2 = 1 → 0 ≤ (f : Int) - 2 ^ ((k : Nat) : Int).toNat ∧ (f : Int) - 2 ^ ((k : Nat) : Int).toNat < 16 := by decide +kernel
  exact key k hk f hf h
theorem undStep_if {k f : Nat} {l : List Int} (h : ((f : Int).fdiv (2 ^ ((k : Nat) : Int).toNat)).fmod 2 = 1) : undStep k l f = l.set f (l.getD f 0 - l.getD ((f : Int) - 2 ^ ((k : Nat) : Int).toNat).toNat 0) := by unfold undStep; rw [if_pos h]
theorem undStep_not {k f : Nat} {l : List Int} (h : ¬ ((f : Int).fdiv (2 ^ ((k : Nat) : Int).toNat)).fmod 2 = 1) : undStep k l f = l := by unfold undStep; rw [if_neg h]
noncomputable abbrev CtU (prog : Program) (w : World) (K : Frag) (p : Program) (loose : List Str) (mean : ExcName → Option Value) (mg mb : Str → Option Value) (f : Addr) (news : List (Addr × Obj)) (k : Nat) (vs : List Value) (ws : List Int) : Prop :=
  ∀ (dp un : Nat) (gd : Option (List Code)) (cn : Str) (cs : Scope) (a : Addr) (ccd : Value) (cl : List (Str × Addr)) (outer : List Env) (A₀ : Around) (base h₀ : Heap) (L : Addr) (m : Str → Option Value) (s : Shared) (Q E : Value → Shared → Prop),
    Below A₀ base outer h₀ → Fr h₀ L s.heap m → K.In h₀ → News h₀ L s.heap news → Top p loose mean mg mb h₀ → cs.kind = .function → dp + k < recursionLimit → un + 8 * k < cLine →
      (∀ (b : Addr) (us : List Value) (ne : Nat) (h' : Heap) (tk' : Nat), Fr h₀ L h' m → News h₀ L h' ((b, W.listOf us.toArray ne) :: news) → (∀ p ∈ news, p.1 ≠ b) → IntsAre us ws → Q (.ref b) { s with heap := h', toks := tk' }) →
      wpAny (model prog w) (ktrTop dp un gd cn cs L a ccd cl outer) (call (.ref f) vs) Q E s
local macro_rules | `(tactic| walk_at "pyIter ref") => `(tactic| (k_here; refine Stop.out ?_))

local macro_rules | `(tactic| walk_at "setItem ref int") => `(tactic| (k_here; refine set_rule (by k_asm) (by k_asm) (by assumption) (by assumption) (by omega) (by omega) ?_; intro h9 F9 N9; (try dsimp only)))
local macro_rules | `(tactic| walk_at "subscriptTail Name BinOp ref int") => `(tactic| (k_here; refine item_ints_rule (News.isList (by k_asm) (by k_mem)) (by assumption) (und_lo (by assumption) (by assumption) (by assumption)).1 (Int.lt_of_lt_of_le (und_lo (by assumption) (by assumption) (by assumption)).2 (by omega)) (by omega) ?_; intro _; (try dsimp only)))
set_option maxHeartbeats 0 in
theorem undone_ok (w : World) (p : Program) (loose : List Str) (mean : ExcName → Option Value) (mg mb : Str → Option Value) (news : List (Addr × Obj)) (sa : Addr) (sn : Nat) (sus : List Value) (sums : List Int) (hs : IntsAre sus sums) (h16 : sums.length = 16) (hus : sus.length = 16) : CtU pw w (KK w.params) p loose mean mg mb 145 ((sa, W.listOf sus.toArray sn) :: news) 1 [.ref sa] (undF sums) := by
  suffices h : PySem.Challenge.rw_rw0102_01 = PySem.Challenge.rw_rw0102_01 → CtU pw w (KK w.params) p loose mean mg mb 145 ((sa, W.listOf sus.toArray sn) :: news) 1 [.ref sa] (undF sums) from h rfl
  k_fill
  intro _
  dsimp only [CtU]
  intros
  rename_i hret
  refine wpAny_call ?_
  k_dflt cell_enter
  k_steps
  refine Stop.inn ?_
  (rename Fr _ _ _ _ => lF'); (rename News _ _ _ _ => lN')
  refine for_ints (n := 4) [Str.ofString "flags"] (fun k l => l = undK k sums ∧ l.length = 16) (by rfl) (by assumption) (by decide) (by decide) lF' lN' (by k_all) hs ⟨rfl, h16⟩ ?_ ?_
  · intro k tk' us l nn u h tk9 own hk hk0 hk4 hI hu hall F₁ N₁
    obtain ⟨hI, hI16⟩ := hI
    k_steps
    refine Stop.inn ?_
    (rename Fr _ _ _ _ => lF2); (rename News _ _ _ _ => lN2)
    refine for_ints (n := 16) [] (fun f l' => l' = undI k f l ∧ l'.length = 16) (by rfl) (by assumption) (by decide) (by decide) lF2 lN2 hall hu ⟨rfl, hI16⟩ ?_ ?_
    · intro f tf us' l' nn' u' h' tk2 own' hf hf0 hf16 hI' hu' hall' F₂ N₂
      obtain ⟨hI', hI16'⟩ := hI'
      have hl16 : us'.length = 16 := by rw [hu'.length]; exact hI16'
      k_steps
      · exact ls_end (by k_asm) (by k_asm) (ints_set hu') (by intro z h1 h2; simp only [if_neg h1]; simp [h2]) ⟨(by rw [undI_succ, ← hI']; exact (undStep_if (by assumption)).symm), by rw [List.length_set]; exact hI16'⟩
      · exact ls_end (by k_asm) (by k_asm) hu' (by intro z h1 h2; simp only [if_neg h1]; simp [h2]) ⟨(by rw [undI_succ, ← hI', undStep_not (by assumption)]), hI16'⟩
    · intro us' l' nn' u' h' tk2 hI' hu' F₂ N₂
      k_steps
      exact ls_end (by k_asm) (by k_asm) hu' (by intro z h1 h2; have h3 : z ≠ Str.ofString "flags" := (fun e => absurd h2 (by rw [e]; decide +kernel)); have h4 : ([] : List Str).contains z = false := rfl; simp only [if_neg h3, if_neg h1, h2, h4, Bool.false_eq_true, if_false]) ⟨(by rw [undK_succ, ← hI]; exact hI'.1), hI'.2⟩
  · intro us l nn u h tk9 hI hu F₁ N₁
    k_steps
    exact hret _ _ _ _ _ (by k_asm) (cb_drop (by k_asm) (by kcj_all)) (by k_all) (by unfold undF; rw [← hI.1]; exact hu)
end Mine
namespace Mine
open PySem PySem.W PySem.Calls PyProof.Rows PyProof.V
local macro_rules | `(tactic| walk_at "mine:enterC") => `(tactic| (refine' code_defC ?k1 ?k2 ?k3 ?k4 ?k5 ?kA ?kF ?kK ?k6 ?k7 ?k8 ?k9 ?kB ?kD ?_ ?c2 ?c3 ?c4; (case kA => exact rfl); (case kF => exact rfl); (case kK => assumption); (case k1 => k_asm); (case k2 => k_asm); (case k3 => k_asm); (case k4 => k_asm); (case k5 => k_asm); (case k6 => k_is); (case k7 => k_is); (case k8 => ktr_room); (case k9 => exact BindsTo.of_eq rfl); (case kB => exact rfl); (case kD => decide +kernel); (case c2 => exact rfl); (case c3 => exact rfl); (case c4 => exact rfl); k_whole; intro g' L' h' tk' cells' FG' F' N' Y' B' X' T' l1; (try k_lt l1); k_cells Y'; (try simp only [List.cons_append, List.nil_append] at N'); (try dsimp only); (try k_lift B'); (try k_fold)))

section
variable {prog : Program} {w : World} {A : Around} {h₀ : Heap} {L : Addr} {m : Str → Option Value} {env : Env} {elt : PySem.Expr} {x : Str} {scope : Scope} {cl : List (Str × Addr)} {s : Shared} {S : List (Addr × Obj) → Prop} {P : Nat → Value → Prop} {Fin : List Value → List (Addr × Obj) → Prop} {news : List (Addr × Obj)}
/-- a comprehension without a test, its turns not unrolled: what the turns made so far is R's -/
theorem map_rest {n : Nat} (R : Nat → List Value → Prop) (h0 : R 0 [])
    (turn : ∀ (i : Nat) v I oI C oC D m₂ ys h tk (E' : Value → Shared → Prop), i < n → P i v → R i ys → LCg.NsObj oC m₂ → m₂ x = some v → Fr h₀ L h m → News h₀ L h ((I, oI) :: (C, oC) :: (D, LCg.lst ys) :: news) → LCg.Off3 I C D news → ((@Ne Nat I C) ∧ (@Ne Nat I D) ∧ (@Ne Nat C D)) →
      wpAny (model prog w) A (eval elt (compEnvC scope cl C env)) (LCg.CompEnd h₀ L m { s with heap := h, toks := tk } I oI C oC D (LCg.lst ys) S (fun y news' => news' = news ∧ R (i + 1) (ys ++ [y]))) E' { s with heap := h, toks := tk })
    (fin : ∀ ys, R n ys → Fin ys news) : LCg.CompRest prog w A h₀ L m env elt x scope cl s S P Fin n 0 [] news := by
  have key : ∀ (j i : Nat) (ys : List Value), i + j = n → R i ys → LCg.CompRest prog w A h₀ L m env elt x scope cl s S P Fin j i ys news := by
    intro j
    induction j with
    | zero =>
      intro i ys hi hy
      have e : i = n := by omega
      subst e
      exact LCg.CompRest.zero (fin ys hy)
    | succ j ih =>
      intro i ys hi hy
      refine LCg.CompRest.succ ?_
      intro v I oI C oC D m₂ h tk E' hv hC hx F N off ne
      refine wpAny_mono (turn i v I oI C oC D m₂ ys h tk E' (by omega) hv hy hC hx F N off ne) (fun y s₂ hq => ?_) fun _ _ e => e
      obtain ⟨h', tk', nw, e, F', N', off', hS, hn, hR⟩ := hq
      rw [hn] at N' off' hS
      exact ⟨h', tk', news, e, F', N', off', hS, ih (i + 1) _ (by omega) hR⟩
  exact key n 0 [] (by omega) h0
end
theorem ctl_use {prog : Program} {w : World} {K : Frag} {p : Program} {loose : List Str} {mean : ExcName → Option Value} {mg mb : Str → Option Value} {f : Addr} {p0 : Addr × Obj} {news : List (Addr × Obj)} {k : Nat} {vs : List Value} {ws : List Str}
    (C : CtL prog w K p loose mean mg mb f (p0 :: news) k vs ws) {dp un : Nat} {gd : Option (List Code)} {cn : Str} {cs : Scope} {a : Addr} {ccd : Value} {cl : List (Str × Addr)} {outer : List Env} {A₀ : Around} {base h₀ : Heap} {L : Addr} {m : Str → Option Value} {s : Shared} {Q E : Value → Shared → Prop}
    (B : Below A₀ base outer h₀) (F : Fr h₀ L s.heap m) (X : K.In h₀) (N : News h₀ L s.heap news) (hm : p0 ∈ news) (T : Top p loose mean mg mb h₀) (hk : cs.kind = .function) (hd : dp + k < recursionLimit) (hu : un + 8 * k < cLine)
    (h : ∀ (b : Addr) (us : List Value) (ne : Nat) (h' : Heap) (tk' : Nat), Fr h₀ L h' m → News h₀ L h' ((b, W.listOf us.toArray ne) :: news) → LCg.Off1 b news → StrsAre us ws → Q (.ref b) { s with heap := h', toks := tk' }) :
    wpAny (model prog w) (ktrTop dp un gd cn cs L a ccd cl outer) (call (.ref f) vs) Q E s := C _ _ _ _ _ _ _ _ _ _ _ _ _ _ _ _ _ B F X
      (fun p hp => by
        rcases List.mem_cons.mp hp with rfl | hp
        · exact N _ hm
        · exact N _ hp) T hk hd hu (fun b us ne h' tk' F' N' o' S' => h b us ne h' tk' F' (fun p hp => N' p (by
        rcases List.mem_cons.mp hp with rfl | hp
        · exact List.mem_cons_self ..
        · exact List.mem_cons_of_mem _ (List.mem_cons_of_mem _ hp))) o'.2 S')
theorem all_off {a c : Addr} : ∀ {news : List (Addr × Obj)}, AllLt a news → @LE.le Nat _ a c → ∀ p ∈ news, p.1 ≠ c
  | [], _, _ => fun _ h => nomatch h
  | q :: r, h, hc => fun p hp => by
    rcases List.mem_cons.mp hp with rfl | hp
    · exact fun e => absurd (Nat.lt_of_lt_of_le h.1 hc) (e ▸ Nat.lt_irrefl _)
    · exact all_off h.2 hc p hp
local macro_rules | `(tactic| k_all) => `(tactic| exact all_off (And.right (by assumption)) (by omega))
theorem strs_rev : ∀ {us : List Value} {ws : List Str}, StrsAre us ws → StrsAre us.reverse ws.reverse
  | _, _, .nil => .nil
  | _, _, .cons y t h => by rw [List.reverse_cons, List.reverse_cons]; exact (strs_rev h).append' (.cons y t .nil)
section
variable {prog : Program} {w : World} {A : Around} {E : Value → Shared → Prop} {s : Shared} {h₀ : Heap} {L l : Addr} {m : Str → Option Value} {news : List (Addr × Obj)} {value slice : PySem.Expr} {vs : List Value} {ss : List Str} {vk : Value} {ops : List Value} {ne : Nat} {Q : Value → Shared → Prop}
theorem krv_strs (F : Fr h₀ L s.heap m) (N : News h₀ L s.heap news) (hm : (l, W.listOf vs.toArray ne) ∈ news) (pk : IsPart vk (some (-1))) (hi : StrsAre vs ss) (hb : ss.length ≤ 1000)
    (h : ∀ D ws h', Fr h₀ L h' m → News h₀ L h' ((D, W.listOf (List.toArray ws) 0) :: news) → (∀ p ∈ news, p.1 < D) → StrsAre ws ss.reverse → Q (.ref D) { s with heap := h' })
    (hs : subscripted slice false (.ref l) (.ref s.heap.objs.size) = operate ops (getItem (.ref l) (.ref s.heap.objs.size))) (ht : ∀ r, letTemporaryGo value (.ref l) r = pure ()) :
    wpAny (model prog w) A (subscriptTail value slice (.ref l) (.ref s.heap.objs.size)) Q E { s with heap := s.heap.push { cls := .type "slice", data := .fields #[.none, .none, vk] } } :=
  krv_lit (its := vs.toArray) (zs := vs.reverse) F N (News.isList N hm) pk rfl (fun D h' F' N' l1 => h D vs.reverse h' F' N' l1 (strs_rev hi)) hs ht (by rw [List.size_toArray, sizeLine_eq]; have := hi.length; omega)
end
theorem tok_ne (u : Nat) : u ≠ u + 1 + 1 := by omega
theorem replace_le {x y z : Str} (hz : z.length ≤ y.length) : (Txt.replace x y z).length ≤ x.length := by
  unfold Txt.replace
  split
  · exact Nat.le_refl _
  · have hy : (Builtin.Str.glued y (Builtin.Str.partsBetween x (Builtin.Str.occurrences x y 0 x.length (x.length + 1)) y.length)).length = x.length := by rw [StrLaws.glued_between_self]
    rw [size_glued, length_partsBetween, Nat.add_sub_cancel] at hy
    rw [size_glued, length_partsBetween, Nat.add_sub_cancel]
    have h2 : (Builtin.Str.occurrences x y 0 x.length (x.length + 1)).length * z.length ≤ (Builtin.Str.occurrences x y 0 x.length (x.length + 1)).length * y.length := Nat.mul_le_mul_left _ hz
    omega
section
variable {prog : Program} {w : World} {A : Around} {E : Value → Shared → Prop} {s : Shared} {x : Str} {t : Tok} {Q : Value → Shared → Prop}
theorem join_T {D : Addr} {items : Array Value} {ys : List Str} (h1 : 1 ≤ s.toks) (hl : s.heap.IsList D items) (hi : StrsAre items.toList ys) (hsep : x.length ≤ 16) (hw : (ys.map (·.length)).sum + ys.length ≤ 1048576)
    (h : ∀ t' k, 1 ≤ k → Q (.str (Txt.join x ys) t') { s with toks := k }) : wpAny (model prog w) A (call (.builtin "str.join") [.str x t, .ref D]) Q E s :=
  wpAny_mono (wpAny_toks_of h1 (join_listW (Q := fun v s' => ∃ t' k, v = .str (Txt.join x ys) t' ∧ s' = { s with toks := k }) hl hi hsep hw (fun t' k => ⟨t', k, rfl, rfl⟩)))
    (fun v s' hh => by
      obtain ⟨hk, t', k, rfl, rfl⟩ := hh
      exact h t' k hk) fun e s' hh => hh.2
theorem replace_T {y z : Str} {u v : Tok} (h1 : 1 ≤ s.toks) (hu : u ≠ 0) (hv : v ≠ 0) (huv : u ≠ v) (hyz : (y == z) = false) (hx : x.length ≤ 1048576) (hz : z.length ≤ 14)
    (h : ∀ t' k, 1 ≤ k → Q (.str (Txt.replace x y z) t') { s with toks := k }) : wpAny (model prog w) A (call (.builtin "str.replace") [.str x t, .str y u, .str z v]) Q E s :=
  wpAny_mono (wpAny_toks_of h1 (SC.replaceW (Q := fun v s' => ∃ t' k, v = .str (Txt.replace x y z) t' ∧ s' = { s with toks := k }) hu hv huv hyz hx hz (fun t' k => ⟨t', k, rfl, rfl⟩)))
    (fun v s' hh => by
      obtain ⟨hk, t', k, rfl, rfl⟩ := hh
      exact h t' k hk) fun e s' hh => hh.2
end
theorem join_len {sep : Str} {ys : List Str} (h : (ys.map (·.length)).sum + ys.length ≤ 84) (h4 : ys.length ≤ 4) (hs : sep.length ≤ 4) : (Txt.join sep ys).length ≤ 100 := by
  have h1 := StrLaws.join_length_le sep ys
  have h2 : ys.length * sep.length ≤ ys.length * 4 := Nat.mul_le_mul_left _ hs
  have e : (Txt.join sep ys).length = (Str.join sep ys).length := by
    show (Builtin.Str.glued sep ys).length = _
    rw [StrLaws.glued_eq_join]
  omega
noncomputable abbrev plF (ws : List Str) : Str := Txt.replace (Txt.replace (Txt.join (Str.ofString "...") ws) (Str.ofString "st") (⟨#[Int.toNat 64262]⟩ : Str)) (Str.ofString "no") (⟨#[Int.toNat 8470]⟩ : Str)
theorem pl_len {ws : List Str} (h : (ws.map (·.length)).sum + ws.length ≤ 84) (h4 : ws.length ≤ 4) : (Txt.join (Str.ofString "...") ws).length ≤ 100 ∧ (Txt.replace (Txt.join (Str.ofString "...") ws) (Str.ofString "st") (⟨#[Int.toNat 64262]⟩ : Str)).length ≤ 100 ∧ (Txt.replace (Txt.replace (Txt.join (Str.ofString "...") ws) (Str.ofString "st") (⟨#[Int.toNat 64262]⟩ : Str)) (Str.ofString "no") (⟨#[Int.toNat 8470]⟩ : Str)).length ≤ 100 := by
  have h1 := join_len (sep := Str.ofString "...") h h4 (by decide +kernel)
  have h2 := replace_le (x := Txt.join (Str.ofString "...") ws) (y := Str.ofString "st") (z := (⟨#[Int.toNat 64262]⟩ : Str)) (by decide +kernel)
  have h3 := replace_le (x := Txt.replace (Txt.join (Str.ofString "...") ws) (Str.ofString "st") (⟨#[Int.toNat 64262]⟩ : Str)) (y := Str.ofString "no") (z := (⟨#[Int.toNat 8470]⟩ : Str)) (by decide +kernel)
  exact ⟨by omega, by omega, by omega⟩
noncomputable def mbF (x : Int) (ws : List Str) : List Str := if (x.fdiv 16).fmod 2 = 1 then (memF x ws).reverse else memF x ws
theorem memF_len (x : Int) (ws : List Str) : (memF x ws).length ≤ 4 := by
  unfold memF
  rw [List.length_map]
  exact Nat.le_trans (List.length_filter_le ..) (by rw [rangeKs_length]; exact Nat.le_refl _)
theorem getD_all {ws : List Str} {n : Nat} (h : ∀ z ∈ ws, z.length ≤ n) (k : Nat) : (ws.getD k Str.empty).length ≤ n := by
  rw [List.getD_eq_getElem?_getD]
  cases e : ws[k]? with
  | none => exact Nat.zero_le _
  | some z => exact h z (List.mem_of_getElem? e)
theorem memF_all {ws : List Str} {n : Nat} (x : Int) (h : ∀ z ∈ ws, z.length ≤ n) : ∀ z ∈ memF x ws, z.length ≤ n := by
  intro z hz
  unfold memF at hz
  obtain ⟨k, _, rfl⟩ := List.mem_map.mp hz
  exact getD_all h _
theorem sum_le {n : Nat} : ∀ {l : List Str}, (∀ z ∈ l, z.length ≤ n) → (l.map (·.length)).sum ≤ n * l.length
  | [], _ => by simp
  | a :: l, h => by
    have h1 := h a (List.mem_cons_self ..)
    have h2 := sum_le (l := l) fun x hx => h x (List.mem_cons_of_mem _ hx)
    simp only [List.map_cons, List.sum_cons, List.length_cons, Nat.mul_add, Nat.mul_one]
    omega
theorem mem_weight {ws : List Str} (x : Int) (h : ∀ z ∈ ws, z.length ≤ 20) : ((memF x ws).map (·.length)).sum + (memF x ws).length ≤ 84 := by
  have h1 := sum_le (memF_all x h)
  have h2 := memF_len x ws
  omega
theorem rev_weight {ws : List Str} (x : Int) (h : ∀ z ∈ ws, z.length ≤ 20) : ((memF x ws).reverse.map (·.length)).sum + (memF x ws).reverse.length ≤ 84 := by
  have h1 := sum_le (l := (memF x ws).reverse) (n := 20) (fun z hz => memF_all x h z (List.mem_reverse.mp hz))
  have h2 := memF_len x ws
  rw [List.length_reverse] at h1 ⊢
  omega
theorem four_all {w0 w1 w2 w3 : Str} (l0 : w0.length ≤ 20) (l1 : w1.length ≤ 20) (l2 : w2.length ≤ 20) (l3 : w3.length ≤ 20) : ∀ z ∈ [w0, w1, w2, w3], z.length ≤ 20 := by
  intro z hz
  simp only [List.mem_cons, List.mem_nil_iff, or_false] at hz
  rcases hz with rfl | rfl | rfl | rfl <;> assumption
noncomputable def spC (x : Int) (pl : Str) (i : Nat) : Str := ch (letF ((Txt.charAt pl (0 + (i : Int))).getD 0) ((x.fdiv 2592).fdiv ((5 : Int) ^ ((0 + (i : Int)).fmod 5).toNat)))
noncomputable def spL (x : Int) (pl : Str) (n : Nat) : List Str := (List.range n).map (spC x pl)
theorem spL_succ (x : Int) (pl : Str) (n : Nat) : spL x pl (n + 1) = spL x pl n ++ [spC x pl n] := by unfold spL; rw [List.range_succ, List.map_append]; rfl
theorem sp_snoc {x : Int} {pl : Str} {i : Nat} {ys : List Value} {t : Tok} (h : StrsAre ys (spL x pl i)) : StrsAre (ys ++ [.str (spC x pl i) t]) (spL x pl (i + 1)) := by
  rw [spL_succ]; exact h.append' (.cons _ _ .nil)
theorem spL_weight (x : Int) (pl : Str) (n : Nat) : ((spL x pl n).map (·.length)).sum = n ∧ (spL x pl n).length = n := by
  induction n with
  | zero => exact ⟨rfl, rfl⟩
  | succ n ih =>
    rw [spL_succ, List.map_append, List.sum_append, List.length_append, ih.1, ih.2]
    exact ⟨rfl, rfl⟩
theorem spL_join (x : Int) (pl : Str) (n : Nat) : (Txt.join (Str.ofString "") (spL x pl n)).length ≤ n := by
  have h1 := StrLaws.join_length_le (Str.ofString "") (spL x pl n)
  have e : (Txt.join (Str.ofString "") (spL x pl n)).length = (Str.join (Str.ofString "") (spL x pl n)).length := by
    show (Builtin.Str.glued (Str.ofString "") (spL x pl n)).length = _
    rw [StrLaws.glued_eq_join]
  have e2 : (Str.ofString "").length = 0 := by decide +kernel
  rw [e2, (spL_weight x pl n).1] at h1
  omega
noncomputable def typT (x : Int) (pl : Str) : Str := Str.ofString "." ++ ch (signF x) ++ Str.ofString ".." ++ Txt.join (Str.ofString "") (spL x pl pl.length) ++ Str.ofString "..."
noncomputable def typF (x : Int) (ws : List Str) : Str := typT x (plF (mbF x ws))
theorem d1 : (Str.ofString ".").length = 1 := by decide +kernel
theorem d2 : (Str.ofString "..").length = 2 := by decide +kernel
theorem d3 : (Str.ofString "...").length = 3 := by decide +kernel
theorem dch (n : Nat) : (ch n).length = 1 := rfl
theorem typT_len {x : Int} {pl : Str} (h : pl.length ≤ 100) : (typT x pl).length ≤ 107 := by
  unfold typT
  simp only [Str.length_append, d1, d2, d3, dch]
  have := spL_join x pl pl.length
  omega
theorem p5 (k : Int) : ((5 : Int) ^ (k.fmod 5).toNat) ≠ 0 ∧ ((5 : Int) ^ (k.fmod 5).toNat).natAbs.log2 < 9000 := by
  have h0 : 0 ≤ k.fmod 5 := Int.fmod_nonneg_of_pos k (by decide)
  have h1 : k.fmod 5 < 5 := Int.fmod_lt_of_pos k (by decide)
  generalize k.fmod 5 = r at h0 h1
  have : r = 0 ∨ r = 1 ∨ r = 2 ∨ r = 3 ∨ r = 4 := by omega
  rcases this with rfl | rfl | rfl | rfl | rfl <;> decide +kernel
theorem mb_if {x : Int} {ws : List Str} (h : (x.fdiv 16).fmod 2 = 1) : mbF x ws = (memF x ws).reverse := if_pos h
theorem mb_not {x : Int} {ws : List Str} (h : ¬ (x.fdiv 16).fmod 2 = 1) : mbF x ws = memF x ws := if_neg h
theorem z1 (n : Nat) : (Str.ofString ".").length + (ch n).length ≤ sizeLine := by rw [sizeLine_eq, d1, dch]; decide
theorem z2 (n : Nat) : (Str.ofString "." ++ ch n).length + (Str.ofString "..").length ≤ sizeLine := by rw [sizeLine_eq]; simp only [Str.length_append, d1, d2, dch]; decide
theorem z3 (n : Nat) {x : Int} {pl : Str} (h : pl.length ≤ 100) : (Str.ofString "." ++ ch n ++ Str.ofString "..").length + (Txt.join (Str.ofString "") (spL x pl pl.length)).length ≤ sizeLine := by
  rw [sizeLine_eq]; simp only [Str.length_append, d1, d2, dch]
  have := spL_join x pl pl.length
  omega
theorem z4 (n : Nat) {x : Int} {pl : Str} (h : pl.length ≤ 100) : (Str.ofString "." ++ ch n ++ Str.ofString ".." ++ Txt.join (Str.ofString "") (spL x pl pl.length)).length + (Str.ofString "...").length ≤ sizeLine := by
  rw [sizeLine_eq]; simp only [Str.length_append, d1, d2, d3, dch]
  have := spL_join x pl pl.length
  omega
local macro_rules | `(tactic| walk_at "binaryOp FloorDiv int int") => `(tactic| (k_here; (with_reducible refine floordiv_int (p5 _).1 ?_ (Or.inl (PyProof.noPylong_of_log2 (p5 _).2))); (try dsimp only)))
local macro_rules | `(tactic| walk_at "binaryOp Add str str") => `(tactic| (k_here; (refine PyProof.Rows.add_str ?h (by first | with_reducible exact z1 _ | with_reducible exact z2 _)); intro _ _; (try dsimp only)))
local macro_rules | `(tactic| walk_at "binaryOp Add str str") => `(tactic| (k_here; (with_reducible show wpAny _ _ (binaryOp _ (Value.str _ _) (Value.str (Txt.join _ _) _)) _ _ _); refine Stop.out ?_))
local macro_rules | `(tactic| walk_at "binaryOp Add str str") => `(tactic| (k_here; (with_reducible show wpAny _ _ (binaryOp _ (Value.str (_ ++ Txt.join _ _) _) _) _ _ _); refine Stop.out ?_))
local macro_rules | `(tactic| walk_at "mine:use") => `(tactic| (
  (case k1 => k_asm); (case k2 => k_asm); (case k3 => k_asm); (case k4 => k_asm); (case k5 => k_asm); (case kK => first | exact rfl | assumption); (case kd => ktr_room); (case ku => ktr_units);
  intro t9 h9 tk9 F9 N9; (try dsimp only); (try k_fold)))
local macro_rules | `(tactic| walk_at "mine:useL") => `(tactic| (
  (case k1 => k_asm); (case k2 => k_asm); (case k3 => k_asm); (case k4 => k_asm); (case k6 => k_mem); (case k5 => k_asm); (case kK => first | exact rfl | assumption); (case kd => ktr_room); (case ku => ktr_units);
  intro b9 us9 ne9 h9 tk9 F9 N9 o9 S9; (try simp only [LCg.Off1, and_true] at o9); (try dsimp only); (try k_fold)))
local macro_rules | `(tactic| walk_at "call ref") => `(tactic| (k_here; (with_reducible show wpAny _ _ (call (Value.ref 112) [Value.int _ _, Value.ref _]) _ _ _); refine' ctl_use (members_ok _ _ _ _ _ _ _ _ _ _ _ _ _ _ _ _ _ _ _ (by assumption)) ?k1 ?k2 ?k3 ?k4 ?k6 ?k5 ?kK ?kd ?ku ?_; walk_at "mine:useL"))
local macro_rules | `(tactic| walk_at "call ref") => `(tactic| (k_here; (with_reducible show wpAny _ _ (call (Value.ref 126) [Value.int _ _]) _ _ _); refine' ct_use (ct_of (sign_ok _ _ _ _ _ _ _ _ _ (by assumption))) ?k1 ?k2 ?k3 ?k4 ?k5 ?kK ?kd ?ku ?_; walk_at "mine:use"))
local macro_rules | `(tactic| walk_at "call ref") => `(tactic| (k_here; (with_reducible show wpAny _ _ (call (Value.ref 119) [Value.str _ _, Value.int _ _]) _ _ _); refine' ct_use (ct_of (letter_ok _ _ _ _ _ _ _ _ _ _ _)) ?k1 ?k2 ?k3 ?k4 ?k5 ?kK ?kd ?ku ?_; walk_at "mine:use"))
local macro_rules | `(tactic| walk_at "subscriptTail Name Slice ref ref") => `(tactic| (k_here; (with_reducible show wpAny _ _ (subscriptTail _ (PySem.Expr.Slice none none (some _) _) (Value.ref _) (Value.ref _)) _ _ _); k_dflt (refine' krv_strs ?k1 ?k2 ?k3 ?k4 ?k5 ?k8 ?_ ?k6 ?k7; (case k1 => k_asm); (case k2 => k_asm); (case k3 => k_mem); (case k4 => exact IsPart.int _ _); (case k5 => assumption); (case k6 => with_unfolding_all rfl); (case k7 => kmk_pure); (case k8 => exact Nat.le_trans (memF_len _ _) (by decide))); intro D' ws' h' F' N' l1 S9; (try k_lt l1); (try k_sweep)))
local macro_rules | `(tactic| walk_at "LCg.CompSrc") => `(tactic| (k_here; refine Stop.out ?_))
local macro_rules | `(tactic| walk_at "CompSrc") => `(tactic| (k_here; refine Stop.out ?_))
local macro_rules | `(tactic| walk_at "call builtin:str.join") => `(tactic| (k_here; refine join_T (by exact Nat.le_add_left 1 _) (News.isList (by k_asm) (by k_mem)) (by assumption) (by decide +kernel) (Nat.le_trans (by first | exact mem_weight _ (by assumption) | exact rev_weight _ (by assumption)) (by decide : 84 ≤ 1048576)) ?_; intro _ _ k9; (try dsimp only)))
local macro_rules | `(tactic| walk_at "call builtin:str.join") => `(tactic| (k_here; (with_reducible show wpAny _ _ (call (Value.builtin "str.join") [Value.str (Str.ofString "") _, Value.ref _]) _ _ _); refine join_T (by exact Nat.le_add_left 1 _) (News.isList (by k_asm) (by k_mem)) (by assumption) (by decide +kernel) (by rw [(spL_weight _ _ _).1, (spL_weight _ _ _).2]; have := (by assumption : (plF _).length ≤ 100); omega) ?_; intro _ _ k9; (try dsimp only)))
local macro_rules | `(tactic| walk_at "call builtin:len") => `(tactic| (k_here; (with_reducible show wpAny _ _ (call (Value.builtin "len") [Value.str _ _]) _ _ _); refine SBL.len (Int.lt_of_le_of_lt (Int.ofNat_le.mpr (by assumption)) (by decide : ((100 : Nat) : Int) < 9223372036854775808)) ?_; (try dsimp only)))
local macro_rules | `(tactic| walk_at "call builtin:str.replace") => `(tactic| (k_here; refine replace_T (by exact Nat.le_add_left 1 _) (by exact Nat.ne_of_gt (by assumption)) (by exact Nat.succ_ne_zero _) (by exact tok_ne _) (by decide +kernel) (Nat.le_trans (by assumption) (by decide : 100 ≤ 1048576)) (by decide +kernel) ?_; intro _ _ k9; (try dsimp only)))

set_option maxHeartbeats 0 in
theorem typed_ok (w : World) (p : Program) (loose : List Str) (mean : ExcName → Option Value) (mg mb : Str → Option Value) (news : List (Addr × Obj)) (aw : Addr) (nw : Nat) (w0 w1 w2 w3 : Str) (t0 t1 t2 t3 : Tok) (x : Int) (t : Tok) (hx : 0 ≤ x) (l0 : w0.length ≤ 20) (l1 : w1.length ≤ 20) (l2 : w2.length ≤ 20) (l3 : w3.length ≤ 20) : Ct pw w (KK w.params) p loose mean mg mb 131 ((aw, W.listOf #[.str w0 t0, .str w1 t1, .str w2 t2, .str w3 t3] nw) :: news) 3 [.int x t, .ref aw] (fun t => .str (typF x [w0, w1, w2, w3]) t) := by
  suffices h : PySem.Challenge.rw_rw0102_01 = PySem.Challenge.rw_rw0102_01 → Ct pw w (KK w.params) p loose mean mg mb 131 ((aw, W.listOf #[.str w0 t0, .str w1 t1, .str w2 t2, .str w3 t3] nw) :: news) 3 [.int x t, .ref aw] (fun t => .str (typF x [w0, w1, w2, w3]) t) from h rfl
  k_fill
  intro _
  dsimp only [Ct, CbRet]
  intros
  rename_i hret
  refine wpAny_call ?_
  k_dflt (walk_at "mine:enterC")
  have hall := four_all l0 l1 l2 l3
  obtain ⟨pA1, pA2, pA3⟩ := pl_len (mem_weight x hall) (memF_len x _)
  obtain ⟨pB1, pB2, pB3⟩ := pl_len (rev_weight x hall) (by rw [List.length_reverse]; exact memF_len x _)
  k_steps
  · refine Stop.inn ?_
    refine LCg.CompSrc.range (by rfl) (by k_asm) (by k_asm) (by assumption) (by exact small_one (by omega) (by omega) (by omega) (by omega)) (by exact rangeSize_nat _ _) (by rw [sizeLine_eq]; omega) ?_
    intro gg
    refine map_rest (fun i ys => StrsAre ys (spL x (plF ((memF x [w0, w1, w2, w3]).reverse)) i)) .nil ?_ ?_
    · intro i v I' oI' C' oC' D' m' ys' h' tk' E' hi hv hR hC' hx' F' N' off' ne'
      obtain ⟨tv, rfl⟩ := hv
      (try dsimp only)
      k_steps
      exact ⟨_, _, _, rfl, by k_asm, by k_asm, off', trivial, rfl, sp_snoc hR⟩
    · intro ys hys
      rw [(fun n => by omega : ∀ n : Nat, ((n : Int) - 0).toNat = n)] at hys
      (try dsimp only)
      k_steps
      refine Stop.inn ?_
      k_here
      refine PyProof.Rows.add_str ?_ (z3 _ (by assumption))
      intro _ _
      (try dsimp only)
      k_steps
      refine Stop.inn ?_
      k_here
      refine PyProof.Rows.add_str ?_ (z4 _ (by assumption))
      intro _ _
      (try dsimp only)
      k_steps
      exact cb_retS hret (by unfold typF; rw [mb_if (by assumption)]; first | done | rfl) (by k_asm) (cb_drop (by k_asm) (by kcj_all))
  · refine Stop.inn ?_
    refine LCg.CompSrc.range (by rfl) (by k_asm) (by k_asm) (by assumption) (by exact small_one (by omega) (by omega) (by omega) (by omega)) (by exact rangeSize_nat _ _) (by rw [sizeLine_eq]; omega) ?_
    intro gg
    refine map_rest (fun i ys => StrsAre ys (spL x (plF (memF x [w0, w1, w2, w3])) i)) .nil ?_ ?_
    · intro i v I' oI' C' oC' D' m' ys' h' tk' E' hi hv hR hC' hx' F' N' off' ne'
      obtain ⟨tv, rfl⟩ := hv
      (try dsimp only)
      k_steps
      exact ⟨_, _, _, rfl, by k_asm, by k_asm, off', trivial, rfl, sp_snoc hR⟩
    · intro ys hys
      rw [(fun n => by omega : ∀ n : Nat, ((n : Int) - 0).toNat = n)] at hys
      (try dsimp only)
      k_steps
      refine Stop.inn ?_
      k_here
      refine PyProof.Rows.add_str ?_ (z3 _ (by assumption))
      intro _ _
      (try dsimp only)
      k_steps
      refine Stop.inn ?_
      k_here
      refine PyProof.Rows.add_str ?_ (z4 _ (by assumption))
      intro _ _
      (try dsimp only)
      k_steps
      exact cb_retS hret (by unfold typF; rw [mb_not (by assumption)]; first | done | rfl) (by k_asm) (cb_drop (by k_asm) (by kcj_all))
end Mine
namespace Mine
open PySem PySem.W PySem.Calls PyProof.Rows PyProof.V
section
variable {prog : Program} {w : World} {A : Around} {E : Value → Shared → Prop} {s : Shared} {h₀ : Heap} {L : Addr} {m : Str → Option Value} {env : Env}
/-- the source of a comprehension is a text -/
noncomputable def TxtSrc (prog : Program) (w : World) (A : Around) (h₀ : Heap) (L : Addr) (m : Str → Option Value) (env : Env) (elt : PySem.Expr) (x : Str) (scope : Scope) (cl : List (Str × Addr)) (Q : Value → Shared → Prop) (xv : Value) (s₁ : Shared) : Prop :=
  ∃ y t news, xv = .str y t ∧ A.handled = none ∧ Fr h₀ L s₁.heap m ∧ News h₀ L s₁.heap news ∧ y.cps.size ≤ sizeLine ∧
    ∀ g, LCg.CompRest prog w A h₀ L m env elt x scope cl { s₁ with heap := g } (fun _ => True) (SignAt y) (LCg.FinE h₀ L m { s₁ with heap := g } Q) y.cps.size 0 [] news
theorem TxtSrc.mk {elt : PySem.Expr} {x : Str} {scope : Scope} {cl : List (Str × Addr)} {Q : Value → Shared → Prop} {y : Str} {t : Tok} {news : List (Addr × Obj)} {s₁ : Shared}
    (hh : A.handled = none) (F : Fr h₀ L s₁.heap m) (N : News h₀ L s₁.heap news) (hsz : y.cps.size ≤ sizeLine)
    (h : ∀ g, LCg.CompRest prog w A h₀ L m env elt x scope cl { s₁ with heap := g } (fun _ => True) (SignAt y) (LCg.FinE h₀ L m { s₁ with heap := g } Q) y.cps.size 0 [] news) :
    TxtSrc prog w A h₀ L m env elt x scope cl Q (.str y t) s₁ := ⟨y, t, news, rfl, hh, F, N, hsz, h⟩
theorem txt_block {elt iter : PySem.Expr} {x : Str} {px : Pos} {scope : Scope} {cl : List (Str × Addr)} {pos : Pos} {s₁ : Shared} {cls : String} {y : Str} {t : Tok} {news : List (Addr × Obj)} {Q : Value → Shared → Prop} {o : Obj}
    (W : Walks prog w A s₁.heap.objs.size [s₁.heap.objs.size] [s₁.heap.objs.size] y.cps.size (SignAt y) (fun i h => h.IsStrIter s₁.heap.objs.size cls y t i)) (ho : (s₁.heap.push o).IsStrIter s₁.heap.objs.size cls y t 0)
    (hcell : ∀ z ∈ scope.names, z.2 ≠ .cell) (hkind : scope.kind = .function) (hx : scope.names.lookup x = some .local)
    (F : Fr h₀ L s₁.heap m) (N : News h₀ L s₁.heap news) (hsz : y.cps.size ≤ sizeLine)
    (R : LCg.CompRest prog w A h₀ L m env elt x scope cl { s₁ with heap := s₁.heap.push o } (fun _ => True) (SignAt y) (LCg.FinE h₀ L m { s₁ with heap := s₁.heap.push o } Q) y.cps.size 0 [] news) :
    wpAny (model prog w) A (newList []) (fun acc s₃ => wpAny (model prog w) A (newFunctionEnv scope env.globals cl [] env.qual none .none (some env)) (fun cenv s₄ =>
      codeAny (model prog w) A (.compStart (.ListComp elt [⟨.Name x px, iter, [], 0⟩] scope pos) 0 (.ref s₁.heap.objs.size) acc { cenv with scope := relabel scope env }) (compPost (model prog w) A E none Q acc cenv.locals) s₄) E s₃) E { s₁ with heap := s₁.heap.push o } := by
  refine LCg.block_U (S := fun _ => True) W hsz (fun i h st => let ⟨o, e, _⟩ := st; ⟨o, e⟩) (fun i h h' o nw st e e' _ _ _ => ?_) hcell hkind hx ho (fun b hb => ?_)
    (F.keeps fun _ _ e => Heap.get?_push_of_some _ e) (N.grown fun _ _ e => Heap.get?_push_of_some _ e) (Nat.ne_of_lt F.ns.lt) (next_is_new F) (fun p hp => Nat.ne_of_lt (Heap.lt_size (N p hp).1)) trivial R ?_
  · obtain ⟨o', q, r⟩ := st
    rw [e] at q; cases q
    exact ⟨o, e', r⟩
  · rw [List.mem_singleton.mp hb]
    show s₁.heap.objs.size < (s₁.heap.push _).objs.size
    rw [Heap.size_push]; exact Nat.lt_succ_self _
  · intro D C h tk m' ys news' F' N' o1 hn hC₀ hD₀ hCL hDL hCD offC fin
    refine ⟨m', hn, fun h'' hs'' => fin D h'' tk (F'.change hs'' hCL hC₀) (fun p hp => ?_) o1⟩
    refine ⟨hs''.extBut _ _ ?_ (N' p hp).1, (N' p hp).2⟩
    rcases List.mem_cons.mp hp with rfl | hp
    · exact Ne.symm hCD
    · exact offC p hp
theorem txt_comp {elt iter : PySem.Expr} {x : Str} {px : Pos} {scope : Scope} {cl : List (Str × Addr)} {pos : Pos} {Q : Value → Shared → Prop}
    (F₀ : Fr h₀ L s.heap m) (hclos : closureFor scope env = pure cl) (hcell : ∀ z ∈ scope.names, z.2 ≠ .cell) (hkind : scope.kind = .function)
    (hnames : ∀ z ∈ scope.names, z.2 = .local → scope.names.lookup z.1 = some .local) (hx : scope.names.lookup x = some .local)
    (h : wpAny (model prog w) A (eval iter env) (TxtSrc prog w A h₀ L m env elt x scope cl Q) E s)
    (hs : ∀ x, foldedSetIterable iter env x = pure x := by intro _; rfl) :
    wpAny (model prog w) A (eval (.ListComp elt [⟨.Name x px, iter, [], 0⟩] scope pos) env) Q E s := by
  rw [eval_ListComp]
  refine wpAny_comprehension_free (use := none) rfl hs hclos hkind hnames (wpAny_mono h (fun xv s₁ h₁ => ?_) fun _ _ e => e)
  obtain ⟨y, t, news, rfl, hh, F, N, hsz, R⟩ := h₁
  cases ha : y.cps.all (· < 128)
  · exact wpAny_pyIter_wide ha (txt_block (Walks.strWide hh _ y t) ⟨_, Heap.get?_push_size _ rfl, rfl, rfl⟩ hcell hkind hx F N hsz (R _))
  · exact wpAny_pyIter_ascii ha (txt_block (Walks.strAscii hh _ y t) ⟨_, Heap.get?_push_size _ rfl, rfl, rfl⟩ hcell hkind hx F N hsz (R _))
end
theorem relabel_cell {env : Env} {x : Str} : ∀ {names : List (Str × NameKind)}, names.lookup x = some .cell →
    (names.map fun (n, k) => if (k == NameKind.free && env.scope.kind == .function && env.kindOf n == some .cell) then (n, NameKind.cell) else (n, k)).lookup x = some .cell
  | [], h => nomatch h
  | (n, k) :: r, h => by
    rw [List.lookup_cons] at h
    rw [List.map_cons]
    dsimp only
    by_cases hc : (k == NameKind.free && env.scope.kind == .function && env.kindOf n == some .cell) = true
    · rw [if_pos hc, List.lookup_cons]
      cases e : x == n with
      | true => rfl
      | false => rw [e] at h; exact relabel_cell h
    · rw [if_neg hc, List.lookup_cons]
      cases e : x == n with
      | true => rw [e] at h; exact h
      | false => rw [e] at h; exact relabel_cell h
section
variable {prog : Program} {w : World} {A : Around} {E : Value → Shared → Prop} {s : Shared} {h₀ : Heap} {L : Addr} {m : Str → Option Value} {env : Env}
/-- a comprehension over a list of the ledger whose target is a cell: the state between two turns is R's -/
theorem cell_block {elt iter : PySem.Expr} {x : Str} {px : Pos} {scope : Scope} {cl : List (Str × Addr)} {pos : Pos} {s₂ : Shared} {I ax : Addr} {its : Array Value} {k : Nat} {news : List (Addr × Obj)} {RR : Value → Addr → Result → Shared → Prop} (R : Nat → List Value → Prop)
    (hh : A.handled = none) (hsz : its.size ≤ sizeLine)
    (hcf : ∀ j, cellsFrom j scope.names cl = (x, j) :: cl) (hpc : ∀ h, pushCells h scope.names = h.push { cls := .type "cell", data := .cell none }) (hkind : scope.kind = .function) (hx : scope.names.lookup x = some .cell)
    (hI : s₂.heap.IsListIter I ax 0) (F : Fr h₀ L s₂.heap m) (N : News h₀ L s₂.heap news) (hm : (ax, W.listOf its k) ∈ news) (hIL : L ≠ I) (hI₀ : h₀.get? I = none) (off : ∀ p ∈ news, p.1 ≠ I) (h0 : R 0 [])
    (turn : ∀ (i : Nat) v oI C oC D c oc ys h tk (E' : Value → Shared → Prop), its[i]? = some v → R i ys → oc.data = .cell (some v) → Fr h₀ L h m → News h₀ L h ((I, oI) :: (C, oC) :: (D, LCg.lst ys) :: (c, oc) :: news) → LCg.Off3 I C D ((c, oc) :: news) → LCg.Off1 c news → ((@Ne Nat I C) ∧ (@Ne Nat I D) ∧ (@Ne Nat C D)) →
      wpAny (model prog w) A (eval elt (compEnvC scope ((x, c) :: cl) C env)) (LCg.CompEnd h₀ L m { s₂ with heap := h, toks := tk } I oI C oC D (LCg.lst ys) (fun _ => True) (fun y news' => news' = (c, oc) :: news ∧ R (i + 1) (ys ++ [y]))) E' { s₂ with heap := h, toks := tk })
    (hRR : ∀ D C h tk m' ys, Fr h₀ L h m → News h₀ L h ((D, LCg.lst ys) :: news) → LCg.Off1 D news → h.Ns C m' → h₀.get? C = none → C ≠ L → C ≠ D → (∀ p ∈ news, p.1 ≠ C) → R its.size ys → RR (.ref D) C (.ok .next) { s₂ with heap := h, toks := tk }) :
    wpAny (model prog w) A (newList []) (fun acc s₃ => wpAny (model prog w) A (newFunctionEnv scope env.globals cl [] env.qual none .none (some env)) (fun cenv s₄ =>
      codeAny (model prog w) A (.compStart (.ListComp elt [⟨.Name x px, iter, [], 0⟩] scope pos) 0 (.ref I) acc { cenv with scope := relabel scope env }) (RR acc cenv.locals) s₄) E s₃) E s₂ := by
  have hIlt : I < s₂.heap.objs.size := let ⟨_, e, _⟩ := hI; Heap.lt_size e
  have hxlt : ax < s₂.heap.objs.size := Heap.lt_size (N _ hm).1
  have hLlt : L < s₂.heap.objs.size := F.ns.lt
  have hIx : ax ≠ I := off _ hm
  have W := Walks.list (prog := prog) (w := w) hh I ax hIx its
  have fresh₀ : ∀ a, s₂.heap.objs.size ≤ a → h₀.get? a = none := fun a ha => by
    cases e : h₀.get? a with
    | none => rfl
    | some o' => exact absurd (Heap.lt_size (F.keep a o' e)) (Nat.not_lt.mpr ha)
  refine wpAny_newObj_type ?_
  simp only [newFunctionEnv, Option.isSome_some, if_true]
  refine wpAny_bind (wpAny_alloc ?_)
  refine wpAny_bind (wpAny_layCells _ (fun name kind cells => by cases hkc : kind == NameKind.cell <;> simp [hkc]) _ _ _ _ ?_)
  rw [List.forIn_nil]
  refine wpAny_bind (wpAny_pure (wpAny_pure ?_))
  simp only [hcf, hpc]
  have old : ∀ b o, s₂.heap.get? b = some o → (((s₂.heap.push { cls := .type "list", data := .seq #[] }).push { cls := .type "dict", data := .dict #[] }).push { cls := .type "cell", data := .cell none }).get? b = some o := fun b o e => Heap.get?_push_of_some _ (Heap.get?_push_of_some _ (Heap.get?_push_of_some _ e))
  have gD : (((s₂.heap.push { cls := .type "list", data := .seq #[] }).push { cls := .type "dict", data := .dict #[] }).push { cls := .type "cell", data := .cell none }).get? s₂.heap.objs.size = some (LCg.lst []) := Heap.get?_push_of_some _ (Heap.get?_push_of_some _ (Heap.get?_push_size _ rfl))
  have gC : (((s₂.heap.push { cls := .type "list", data := .seq #[] }).push { cls := .type "dict", data := .dict #[] }).push { cls := .type "cell", data := .cell none }).Ns (s₂.heap.push { cls := .type "list", data := .seq #[] }).objs.size (fun _ => none) := (Heap.Ns.new _ (.type "dict")).keeps fun b o e => Heap.get?_push_of_some _ e
  have gc : (((s₂.heap.push { cls := .type "list", data := .seq #[] }).push { cls := .type "dict", data := .dict #[] }).push { cls := .type "cell", data := .cell none }).get? ((s₂.heap.push { cls := .type "list", data := .seq #[] }).push { cls := .type "dict", data := .dict #[] }).objs.size = some { cls := .type "cell", data := .cell none } := Heap.get?_push_size _ rfl
  have eC : (s₂.heap.push { cls := .type "list", data := .seq #[] }).objs.size = s₂.heap.objs.size + 1 := Heap.size_push ..
  have ec : ((s₂.heap.push { cls := .type "list", data := .seq #[] }).push { cls := .type "dict", data := .dict #[] }).objs.size = s₂.heap.objs.size + 1 + 1 := by rw [Heap.size_push, Heap.size_push]
  generalize (((s₂.heap.push { cls := .type "list", data := .seq #[] }).push { cls := .type "dict", data := .dict #[] }).push { cls := .type "cell", data := .cell none }) = H1 at old gD gC gc ⊢
  generalize ((s₂.heap.push { cls := .type "list", data := .seq #[] }).push { cls := .type "dict", data := .dict #[] }).objs.size = c at gc ec ⊢
  generalize (s₂.heap.push { cls := .type "list", data := .seq #[] }).objs.size = C at gC eC ⊢
  generalize hD : s₂.heap.objs.size = D at *
  have nlt : ∀ b : Nat, b < D → b ≠ C ∧ b ≠ c ∧ b ≠ D := fun b hb => by
    have e1 : (C : Nat) = D + 1 := eC
    have e2 : (c : Nat) = D + 1 + 1 := ec
    exact ⟨by omega, by omega, by omega⟩
  have hCD : C ≠ D := by
    have e1 : (C : Nat) = D + 1 := eC
    show (C : Nat) ≠ D
    omega
  have hcD : c ≠ D := by
    have e2 : (c : Nat) = D + 1 + 1 := ec
    show (c : Nat) ≠ D
    omega
  have hcC : c ≠ C := by
    have e1 : (C : Nat) = D + 1 := eC
    have e2 : (c : Nat) = D + 1 + 1 := ec
    show (c : Nat) ≠ C
    omega
  have hD₀ : h₀.get? D = none := fresh₀ D (Nat.le_refl _)
  have hC₀ : h₀.get? C = none := fresh₀ C (by rw [eC]; exact Nat.le_succ _)
  have hc₀ : h₀.get? c = none := fresh₀ c (by rw [ec]; exact Nat.le_succ_of_le (Nat.le_succ _))
  have nL := nlt L hLlt
  have nI := nlt I hIlt
  have nx := nlt ax hxlt
  have nN : ∀ p ∈ news, p.1 ≠ C ∧ p.1 ≠ c ∧ p.1 ≠ D := fun p hp => nlt p.1 (hD ▸ Heap.lt_size (N p hp).1)
  have loop : codeAny (model prog w) A (.compLoop (.ListComp elt [⟨.Name x px, iter, [], 0⟩] scope pos) 0 (.ref I) (.ref D) (compEnvC scope ((x, c) :: cl) C env)) (RR (.ref D) C) { s₂ with heap := H1 } := by
    refine codeAny_compLoop_tests
      (fun j s' => ∃ h' tk i ys m' oc v₀, s' = { s₂ with heap := h', toks := tk } ∧ i ≤ its.size ∧ j = its.size + 1 - i ∧ ys.length = i ∧ h'.IsListIter I ax i ∧ Fr h₀ L h' m ∧ h'.Ns C m' ∧ News h₀ L h' ((D, LCg.lst ys) :: (c, oc) :: news) ∧ oc.data = .cell v₀ ∧ R i ys) ?_ (its.size + 1)
      ⟨H1, _, 0, [], _, { cls := .type "cell", data := .cell none }, none, rfl, Nat.zero_le _, rfl, rfl, ?_, F.keeps old, gC, fun p hp => ?_, rfl, h0⟩
    · rintro j s' ⟨h', tk, i, ys, m', oc, v₀, rfl, hi, rfl, hyl, hit, F', hn', N', hoc, hR⟩
      have hl : h'.IsList ax its := News.isList N' (List.mem_cons_of_mem _ (List.mem_cons_of_mem _ hm))
      by_cases hlt : i < its.size
      · refine W.item i _ _ _ hlt ⟨hit, hl⟩ fun v h₂ tk₂ hPv hst₂ hk₂ => ?_
        have k2 : ∀ b o, b ≠ I → h'.get? b = some o → h₂.get? b = some o := fun b o hb e => hk₂ b o (by simpa using hb) e
        have hcc : h₂.IsCell c v₀ := ⟨oc, k2 c oc (Ne.symm nI.2.1) (N' _ (List.mem_cons_of_mem _ List.mem_cons_self)).1, hoc⟩
        refine wpAny_assign_Name (wpAny_storeName_cell (by simp [compEnvC, relabel, hkind]) (relabel_cell hx) (by simp [compEnvC]) hcc fun h₃ hc₃ hs₃ => ?_)
        refine wpAny_tests_nil ?_
        rw [if_pos rfl]
        obtain ⟨oc', gc', hoc'⟩ := hc₃
        have k3 : ∀ b o, b ≠ I → b ≠ c → h'.get? b = some o → h₃.get? b = some o := fun b o hb hb' e => (hs₃.2 b hb').trans (k2 b o hb e)
        obtain ⟨oC, heC, hoC⟩ := LCg.ns_obj (hn'.at' fun o e => k3 C o (Ne.symm nI.1) (Ne.symm hcC) e)
        obtain ⟨oI, heI, hcI, hdI⟩ := hst₂.1
        have heI3 : h₃.get? I = some oI := (hs₃.2 I nI.2.1).trans heI
        have F₃ : Fr h₀ L h₃ m := ⟨F'.ns.at' fun o e => k3 L o hIL nL.2.1 e, fun b o e => k3 b o (fun q => by rw [q, hI₀] at e; cases e) (fun q => by rw [q, hc₀] at e; cases e) (F'.keep b o e), F'.above⟩
        have N₃ : News h₀ L h₃ ((I, oI) :: (C, oC) :: (D, LCg.lst ys) :: (c, oc') :: news) := fun p hp => by
          rcases List.mem_cons.mp hp with rfl | hp
          · exact ⟨heI3, Ne.symm hIL, hI₀⟩
          rcases List.mem_cons.mp hp with rfl | hp
          · exact ⟨heC, Ne.symm nL.1, hC₀⟩
          rcases List.mem_cons.mp hp with rfl | hp
          · exact ⟨k3 D _ (Ne.symm nI.2.2) (Ne.symm hcD) (N' _ List.mem_cons_self).1, Ne.symm nL.2.2, hD₀⟩
          rcases List.mem_cons.mp hp with rfl | hp
          · exact ⟨gc', Ne.symm nL.2.1, hc₀⟩
          have z := N' p (List.mem_cons_of_mem _ (List.mem_cons_of_mem _ hp))
          exact ⟨k3 _ _ (off p hp) (nN p hp).2.1 z.1, z.2⟩
        refine wpAny_mono (turn i v oI C oC D c oc' ys h₃ _ _ hPv hR hoc' F₃ N₃ (LCg.Off3.of fun p hp => ?_) (LCg.Off3.one (I := c) (C := c) (LCg.Off3.of fun p hp => ⟨(nN p hp).2.1, (nN p hp).2.1, (nN p hp).2.1⟩)) ⟨nI.1, nI.2.2, hCD⟩) (fun y s₄ h₄ => ?_) fun _ _ e => e
        · rcases List.mem_cons.mp hp with rfl | hp
          · exact ⟨Ne.symm nI.2.1, hcC, hcD⟩
          · exact ⟨off p hp, (nN p hp).1, (nN p hp).2.2⟩
        · obtain ⟨h₄, tk₄, news₄, rfl, F₄, N₄, off₄, _, rfl, hR₄⟩ := h₄
          have zI := (N₄ (I, oI) List.mem_cons_self).1
          have zC := (N₄ (C, oC) (List.mem_cons_of_mem _ List.mem_cons_self)).1
          have zD := (N₄ (D, LCg.lst ys) (List.mem_cons_of_mem _ (List.mem_cons_of_mem _ List.mem_cons_self))).1
          refine append_at (hsz := by show ys.toArray.size ≤ sizeLine; rw [List.size_toArray, hyl]; exact Nat.le_trans hi hsz) zD fun h₅ hs₅ hD₅ => ?_
          have k5 : ∀ b o, b ≠ D → h₄.get? b = some o → h₅.get? b = some o := fun b o hb e => (hs₅.2 b hb).trans e
          refine ⟨its.size + 1 - (i + 1), by omega, h₅, tk₄, i + 1, ys ++ [y], _, oc', some v, rfl, hlt, rfl, by rw [List.length_append, List.length_singleton, hyl], ⟨oI, k5 I _ nI.2.2 zI, hcI, hdI⟩,
            ⟨F₄.ns.at' fun o e => k5 L o nL.2.2 e, fun b o e => k5 b o (fun q => by rw [q, hD₀] at e; cases e) (F₄.keep b o e), F₄.above⟩, hoC.ns (k5 C _ hCD zC), fun p hp => ?_, hoc', hR₄⟩
          rcases List.mem_cons.mp hp with rfl | hp
          · exact ⟨hD₅.trans (congrArg some (LCg.lst_snoc ys y)), Ne.symm nL.2.2, hD₀⟩
          · have z := N₄ p (List.mem_cons_of_mem _ (List.mem_cons_of_mem _ (List.mem_cons_of_mem _ hp)))
            refine ⟨k5 _ _ ?_ z.1, z.2⟩
            rcases List.mem_cons.mp hp with rfl | hp
            · exact hcD
            · exact (nN p hp).2.2
      · obtain rfl : i = its.size := Nat.le_antisymm hi (Nat.not_lt.mp hlt)
        refine W.done _ _ _ ⟨hit, hl⟩ fun h₂ tk₂ hk₂ => ?_
        have k2 : ∀ b o, b ≠ I → h'.get? b = some o → h₂.get? b = some o := fun b o hb e => hk₂ b o (by simpa using hb) e
        refine hRR D C h₂ tk₂ m' ys ⟨F'.ns.at' fun o e => k2 L o hIL e, fun b o e => k2 b o (fun q => by rw [q, hI₀] at e; cases e) (F'.keep b o e), F'.above⟩ (fun p hp => ?_) (LCg.Off3.one (I := D) (C := D) (LCg.Off3.of fun p hp => ⟨(nN p hp).2.2, (nN p hp).2.2, (nN p hp).2.2⟩)) (hn'.at' fun o e => k2 C o (Ne.symm nI.1) e) hC₀ (Ne.symm nL.1) hCD (fun p hp => (nN p hp).1) hR
        rcases List.mem_cons.mp hp with rfl | hp
        · have z := N' _ List.mem_cons_self
          exact ⟨k2 _ _ (Ne.symm nI.2.2) z.1, z.2⟩
        · have z := N' p (List.mem_cons_of_mem _ (List.mem_cons_of_mem _ hp))
          exact ⟨k2 _ _ (off p hp) z.1, z.2⟩
    · obtain ⟨o, e, r⟩ := hI
      exact ⟨o, old _ _ e, r⟩
    · rcases List.mem_cons.mp hp with rfl | hp
      · exact ⟨gD, Ne.symm nL.2.2, hD₀⟩
      rcases List.mem_cons.mp hp with rfl | hp
      · exact ⟨gc, Ne.symm nL.2.1, hc₀⟩
      exact ⟨old _ _ (N p hp).1, (N p hp).2⟩
  refine codeAny_compStart_list loop (W.self 0 _ _ _ ⟨?_, News.isList (fun p hp => ⟨old _ _ (N p hp).1, (N p hp).2⟩ : News h₀ L H1 news) hm⟩ loop)
  obtain ⟨o, e, r⟩ := hI
  exact ⟨o, old _ _ e, r⟩
/-- the source of a comprehension whose target is a cell -/
noncomputable def CellSrc (prog : Program) (w : World) (A : Around) (h₀ : Heap) (L : Addr) (m : Str → Option Value) (env : Env) (elt : PySem.Expr) (x : Str) (scope : Scope) (cl : List (Str × Addr)) (Fin : Shared → List Value → List (Addr × Obj) → Prop) (xv : Value) (s₁ : Shared) : Prop :=
  ∃ ax its k news, ∃ R : Nat → List Value → Prop, xv = .ref ax ∧ A.handled = none ∧ Fr h₀ L s₁.heap m ∧ News h₀ L s₁.heap news ∧ (ax, W.listOf its k) ∈ news ∧ its.size ≤ sizeLine ∧ R 0 [] ∧
    (∀ (g : Heap) I (i : Nat) v oI C oC D c oc ys h tk (E' : Value → Shared → Prop), its[i]? = some v → R i ys → oc.data = .cell (some v) → Fr h₀ L h m → News h₀ L h ((I, oI) :: (C, oC) :: (D, LCg.lst ys) :: (c, oc) :: news) → LCg.Off3 I C D ((c, oc) :: news) → LCg.Off1 c news → ((@Ne Nat I C) ∧ (@Ne Nat I D) ∧ (@Ne Nat C D)) →
      wpAny (model prog w) A (eval elt (compEnvC scope ((x, c) :: cl) C env)) (LCg.CompEnd h₀ L m { s₁ with heap := h, toks := tk } I oI C oC D (LCg.lst ys) (fun _ => True) (fun y news' => news' = (c, oc) :: news ∧ R (i + 1) (ys ++ [y]))) E' { s₁ with heap := h, toks := tk }) ∧
    (∀ (g : Heap) ys, R its.size ys → Fin { s₁ with heap := g } ys news)
theorem assign_cell_comp {elt iter : PySem.Expr} {x y : Str} {px py : Pos} {scope : Scope} {cl : List (Str × Addr)} {pos spos : Pos} {Q : Flow → Shared → Prop} (F₀ : Fr h₀ L s.heap m) (hLe : env.locals = L)
    (hsw : swapsWith (.ListComp elt [⟨.Name x px, iter, [], 0⟩] scope pos) (some (.Name y py)) spos.line env = pure true)
    (hclos : closureFor scope env = pure cl) (hkind : scope.kind = .function)
    (hnames : ∀ z ∈ scope.names, z.2 = .local → scope.names.lookup z.1 = some .local) (hx : scope.names.lookup x = some .cell)
    (hcf : ∀ j, cellsFrom j scope.names cl = (x, j) :: cl) (hpc : ∀ h, pushCells h scope.names = h.push { cls := .type "cell", data := .cell none })
    (hy : env.kindOf y = some .local) (hp : (env.scope.kind == .class || (env.scope.kind == .module && env.locals != env.globals)) = false)
    (h : wpAny (model prog w) A (eval iter env) (CellSrc prog w A h₀ L m env elt x scope cl (fun s₂ => LCg.FinA h₀ L m s₂ y Q)) E s)
    (hs : ∀ x, foldedSetIterable iter env x = pure x := by intro _; rfl) :
    wpAny (model prog w) A (exec (.Assign [.Name y py] (.ListComp elt [⟨.Name x px, iter, [], 0⟩] scope pos) spos) env) Q E s := by
  subst hLe
  rw [exec_Assign_Name_used _ _ _ _ hsw]
  refine wpAny_bind (wpAny_standAt (wpAny_bind ?_))
  show wpAny _ A (do let _ ← comprehension (.ListComp elt [⟨.Name x px, iter, [], 0⟩] scope pos) scope env _ (newList []) false (eval iter env) (some (assign (.Name y py) env))) _ _ s
  refine wpAny_bind (wpAny_mono (wpAny_comprehension_free (use := some (assign (.Name y py) env)) (Q := fun _ s' => Q .next s') rfl hs hclos hkind hnames
    (wpAny_mono h (fun xv s₁ h₁ => ?_) fun _ _ e => e)) (fun _ s' hq => wpAny_pure (wpAny_pure hq)) fun _ _ e => e)
  obtain ⟨ax, its, k, news, R, rfl, hh, F, N, hm, hsz, h0, turn, fin⟩ := h₁
  have hl : s₁.heap.IsList ax its := News.isList N hm
  refine wpAny_pyIter_list hl ?_
  have up : ∀ b o, s₁.heap.get? b = some o → (s₁.heap.push { cls := .type "list_iterator", data := .fields #[.ref ax, .int 0 0] }).get? b = some o := fun b o e => Heap.get?_push_of_some _ e
  refine cell_block R hh hsz hcf hpc hkind hx ⟨_, Heap.get?_push_size _ rfl, rfl, rfl⟩ (F.keeps up) (N.grown up) hm (Nat.ne_of_lt F.ns.lt) (next_is_new F) (fun p hp => Nat.ne_of_lt (Heap.lt_size (N p hp).1)) h0 (turn s₁.heap s₁.heap.objs.size) ?_
  intro D C h' tk m' ys F' N' o1 hn hC₀ hCL hCD offC hR
  show wpAny _ A (assign (.Name y py) env (.ref D)) _ _ _
  refine wpAny_assign_Name (wpAny_storeName_local hy F'.ns (fun h₂ hn₂ hs₂ => ?_) hp)
  have F₂ := F'.set hn₂ hs₂
  have N₂ := N'.set hs₂
  refine ⟨m', hn.sameBut hs₂ hCL, fun h'' hs'' => fin s₁.heap ys hR D h'' _ (F₂.change hs'' hCL hC₀) (fun p hp => ?_) o1⟩
  refine ⟨hs''.extBut _ _ ?_ (N₂ p hp).1, (N₂ p hp).2⟩
  rcases List.mem_cons.mp hp with rfl | hp
  · exact Ne.symm hCD
  · exact offC p hp
end
end Mine
namespace Mine
open PySem PySem.W PySem.Calls PyProof.Rows PyProof.V
theorem drawn_use {prog : Program} {w : World} {K : Frag} {p : Program} {loose : List Str} {mean : ExcName → Option Value} {mg mb : Str → Option Value} {news : List (Addr × Obj)} {k : Nat} {sa : Addr} {svs : List Value}
    (C : CtD prog w K p loose mean mg mb 100 news k sa svs) {dp un : Nat} {gd : Option (List Code)} {cn : Str} {cs : Scope} {a : Addr} {ccd : Value} {cl : List (Str × Addr)} {outer : List Env} {A₀ : Around} {base h₀ : Heap} {L : Addr} {m : Str → Option Value} {s : Shared} {Q E : Value → Shared → Prop}
    (B : Below A₀ base outer h₀) (F : Fr h₀ L s.heap m) (X : K.In h₀) (N : News h₀ L s.heap news) (T : Top p loose mean mg mb h₀) (hl : h₀.IsList sa svs.toArray) (hk : cs.kind = .function) (hd : dp + k < recursionLimit) (hu : un + 8 * k < cLine)
    (h : ∀ (b : Addr) (d0 d1 d2 d3 : Int) (t0 t1 t2 t3 : Tok) (ne : Nat) (h' : Heap) (tk' : Nat), 0 ≤ d0 → 0 ≤ d1 → 0 ≤ d2 → 0 ≤ d3 → Fr h₀ L h' m → News h₀ L h' ((b, W.listOf #[.int d0 t0, .int d1 t1, .int d2 t2, .int d3 t3] ne) :: news) → LCg.Off1 b news → Q (.ref b) { s with heap := h', toks := tk' }) :
    wpAny (model prog w) (ktrTop dp un gd cn cs L a ccd cl outer) (call (.ref 100) [.ref sa]) Q E s := C _ _ _ _ _ _ _ _ _ _ _ _ _ _ _ _ _ B F X N T hl hk hd hu (fun b us l ne h' tk' F' N' o' hi h4 hp => by
      rcases hi with _ | ⟨d0, t0, hi⟩
      · cases h4
      rcases hi with _ | ⟨d1, t1, hi⟩
      · cases h4
      rcases hi with _ | ⟨d2, t2, hi⟩
      · cases h4
      rcases hi with _ | ⟨d3, t3, hi⟩
      · cases h4
      rcases hi with _ | ⟨d4, t4, hi⟩
      · exact h b d0 d1 d2 d3 t0 t1 t2 t3 ne h' tk' (hp _ (by simp)) (hp _ (by simp)) (hp _ (by simp)) (hp _ (by simp)) F' N' (LCg.Off3.one (I := b) (C := b) (LCg.Off3.of fun p hp => ⟨o' p hp, o' p hp, o' p hp⟩))
      · cases h4)
theorem le63 {ws : List Value} {ns : List Int} (h : IntsAre ws ns) (hc : ¬ ((63 : Nat) : Int) < ((ns.length : Nat) : Int)) : ws.length ≤ 63 := by
  rw [h.length]; omega
noncomputable def okFirst (f : Int) : Prop := 0 ≤ f ∧ f ≤ 28 ∧ ¬ (5 ≤ f ∧ f ≤ 7)
theorem ok_lo {x : Int} (h : x.fmod 26 < 5) : okFirst (x.fmod 26) := by
  have h0 : 0 ≤ x.fmod 26 := Int.fmod_nonneg_of_pos x (by decide)
  unfold okFirst
  omega
theorem ok_hi {x : Int} (h : ¬ x.fmod 26 < 5) : okFirst (x.fmod 26 + 3) := by
  have h0 : 0 ≤ x.fmod 26 := Int.fmod_nonneg_of_pos x (by decide)
  have h1 : x.fmod 26 < 26 := Int.fmod_lt_of_pos x (by decide)
  unfold okFirst
  omega
noncomputable def FirstEnd (s : Shared) (v : Value) (s' : Shared) : Prop := ∃ fi t tk, okFirst fi ∧ v = .int fi t ∧ s' = { s with toks := tk }
theorem join_first {M : Model} {A : Around} {E : Value → Shared → Prop} {s : Shared} {T : Sem Value} {Q : Value → Shared → Prop} (h1 : wpAny M A T (FirstEnd s) E s) (h2 : ∀ fi, okFirst fi → ∀ t tk, Q (.int fi t) { s with toks := tk }) : wpAny M A T Q E s :=
  wpAny_mono h1 (fun v s' hh => by
    obtain ⟨fi, t, tk, h, rfl, rfl⟩ := hh
    exact h2 fi h t tk) fun _ _ e => e
noncomputable def wd (fi : Int) (k : Nat) : Str := wordF (fi + (0 + (k : Int)))
noncomputable def wdL (fi : Int) (i : Nat) : List Str := (List.range i).map (wd fi)
noncomputable def w4 (fi : Int) : List Str := [wd fi 0, wd fi 1, wd fi 2, wd fi 3]
theorem wdL_succ (fi : Int) (i : Nat) : wdL fi (i + 1) = wdL fi i ++ [wd fi i] := by unfold wdL; rw [List.range_succ, List.map_append]; rfl
theorem wd_snoc {fi : Int} {i : Nat} {ys : List Value} {t : Tok} (h : StrsAre ys (wdL fi i)) : StrsAre (ys ++ [.str (wordF (fi + (0 + (i : Int)))) t]) (wdL fi (i + 1)) := by
  rw [wdL_succ]; exact h.append' (.cons _ _ .nil)
theorem strs4 {ys : List Value} {a b c d : Str} (h : StrsAre ys [a, b, c, d]) : ∃ t0 t1 t2 t3, ys = [.str a t0, .str b t1, .str c t2, .str d t3] := by
  cases h with
  | cons _ t0 h => cases h with
    | cons _ t1 h => cases h with
      | cons _ t2 h => cases h with
        | cons _ t3 h => cases h; exact ⟨t0, t1, t2, t3, rfl⟩
theorem wd4 {ys : List Value} {fi : Int} (h : StrsAre ys (wdL fi 4)) : ∃ t0 t1 t2 t3, ys = [.str (wd fi 0) t0, .str (wd fi 1) t1, .str (wd fi 2) t2, .str (wd fi 3) t3] := strs4 h
theorem wordF_len : ∀ n : Nat, n < 32 → (wordF (n : Int)).length ≤ 20 := by decide +kernel
theorem wd_len {fi : Int} (h : okFirst fi) (k : Nat) (hk : k < 4) : (wd fi k).length ≤ 20 := by
  unfold wd
  have h' := h
  unfold okFirst at h'
  have := wordF_len (fi + (0 + (k : Int))).toNat (by omega)
  rwa [Int.toNat_of_nonneg (by omega)] at this
noncomputable def nm (fi x : Int) : Str := prepL (KStt.codes (typF x (w4 fi)))
noncomputable def nmL (fi : Int) (ds : List Int) (i : Nat) : List Str := (ds.take i).map (nm fi)
theorem nm_snoc {fi d : Int} {ds : List Int} {i : Nat} {ys : List Value} {t : Tok} (hd : ds[i]? = some d) (h : StrsAre ys (nmL fi ds i)) : StrsAre (ys ++ [.str (prepL (KStt.codes (typF d [wd fi 0, wd fi 1, wd fi 2, wd fi 3]))) t]) (nmL fi ds (i + 1)) := by
  unfold nmL
  rw [List.take_add_one, hd, List.map_append]
  exact h.append' (.cons _ _ .nil)
theorem strs3 {ys : List Value} {fi d0 d1 d2 : Int} (h : StrsAre ys (nmL fi [d0, d1, d2] 3)) : ∃ t0 t1 t2, ys = [.str (nm fi d0) t0, .str (nm fi d1) t1, .str (nm fi d2) t2] := by
  have h' : StrsAre ys [nm fi d0, nm fi d1, nm fi d2] := h
  cases h' with
  | cons _ t0 h => cases h with
    | cons _ t1 h => cases h with
      | cons _ t2 h => cases h; exact ⟨t0, t1, t2, rfl⟩
theorem items3 {d0 d1 d2 : Int} {t0 t1 t2 : Tok} {i : Nat} {v : Value} (h : (#[Value.int d0 t0, Value.int d1 t1, Value.int d2 t2] : Array Value)[i]? = some v) : ∃ d t, v = .int d t ∧ [d0, d1, d2][i]? = some d := by
  match i, h with
  | 0, h => exact ⟨d0, t0, (Option.some.inj h).symm, rfl⟩
  | 1, h => exact ⟨d1, t1, (Option.some.inj h).symm, rfl⟩
  | 2, h => exact ⟨d2, t2, (Option.some.inj h).symm, rfl⟩
  | i + 3, h => simp at h
theorem pos3 {d0 d1 d2 d : Int} {i : Nat} (h0 : 0 ≤ d0) (h1 : 0 ≤ d1) (h2 : 0 ≤ d2) (h : [d0, d1, d2][i]? = some d) : 0 ≤ d := by
  have := List.mem_of_getElem? h
  simp only [List.mem_cons, List.mem_nil_iff, or_false] at this
  rcases this with rfl | rfl | rfl <;> assumption
theorem w4_all {fi : Int} (h : okFirst fi) : ∀ z ∈ w4 fi, z.length ≤ 20 := four_all (wd_len h 0 (by decide)) (wd_len h 1 (by decide)) (wd_len h 2 (by decide)) (wd_len h 3 (by decide))
theorem typF_len {fi : Int} (h : okFirst fi) (x : Int) : (typF x (w4 fi)).length ≤ 107 := by
  unfold typF
  refine typT_len ?_
  unfold mbF
  split
  · exact (pl_len (rev_weight x (w4_all h)) (by rw [List.length_reverse]; exact memF_len x _)).2.2
  · exact (pl_len (mem_weight x (w4_all h)) (memF_len x _)).2.2
theorem typ_le {fi : Int} (h : okFirst fi) (x : Int) : (typF x [wd fi 0, wd fi 1, wd fi 2, wd fi 3]).length ≤ 1000 := Nat.le_trans (typF_len h x) (by decide)
theorem ctp_use {prog : Program} {w : World} {K : Frag} {p : Program} {loose : List Str} {mean : ExcName → Option Value} {mg mb : Str → Option Value} {f : Addr} {p0 : Addr × Obj} {news : List (Addr × Obj)} {k : Nat} {vs : List Value} {R : Tok → Value}
    (C : Ct prog w K p loose mean mg mb f (p0 :: news) k vs R) {dp un : Nat} {gd : Option (List Code)} {cn : Str} {cs : Scope} {a : Addr} {ccd : Value} {cl : List (Str × Addr)} {outer : List Env} {A₀ : Around} {base h₀ : Heap} {L : Addr} {m : Str → Option Value} {s : Shared} {Q E : Value → Shared → Prop}
    (B : Below A₀ base outer h₀) (F : Fr h₀ L s.heap m) (X : K.In h₀) (N : News h₀ L s.heap news) (hm : p0 ∈ news) (T : Top p loose mean mg mb h₀) (hk : cs.kind = .function) (hd : dp + k < recursionLimit) (hu : un + 8 * k < cLine)
    (h : ∀ (t : Tok) (h' : Heap) (tk' : Nat), Fr h₀ L h' m → News h₀ L h' news → Q (R t) { s with heap := h', toks := tk' }) :
    wpAny (model prog w) (ktrTop dp un gd cn cs L a ccd cl outer) (call (.ref f) vs) Q E s := C _ _ _ _ _ _ _ _ _ _ _ _ _ _ _ _ _ B F X
      (fun p hp => by
        rcases List.mem_cons.mp hp with rfl | hp
        · exact N _ hm
        · exact N _ hp) T hk hd hu (fun t h' tk' F' N' => h t h' tk' F' (fun p hp => N' p (List.mem_cons_of_mem _ hp)))
/-! the texts -/
noncomputable def b3T (y : Str) (i : Nat) : List Str := (y.cps.toList.take i).map b3F
theorem b3_snoc {y : Str} {c i : Nat} {ys : List Value} {t : Tok} (hc : y.cps[i]? = some c) (h : StrsAre ys (b3T y i)) : StrsAre (ys ++ [.str (b3F c) t]) (b3T y (i + 1)) := by
  unfold b3T
  rw [List.take_add_one, show y.cps.toList[i]? = some c by rw [Array.getElem?_toList]; exact hc, List.map_append]
  exact h.append' (.cons _ _ .nil)
noncomputable def joinB (y : Str) : Str := Txt.join (Str.ofString "") (b3T y y.cps.size)
theorem pfGo_ok : ∀ (k : Nat) (names : List Str) (fl : Int) (i : Nat), i + k ≤ 32 → 0 ≤ fl → fl < 2 ^ 33 → (∀ x ∈ names, x.length ≤ 40) → names.length ≤ i → (pfGo k names fl i).length ≤ 33 ∧ ∀ x ∈ pfGo k names fl i, x.length ≤ 40
  | 0, names, fl, i, hi, h0, h1, hx, hl => by
    unfold pfGo
    refine ⟨by rw [List.length_append]; simp only [List.length_cons, List.length_nil]; omega, fun x hm => ?_⟩
    rcases List.mem_append.mp hm with hm | hm
    · exact hx x hm
    · rw [List.mem_singleton.mp hm]; exact hex_len _ h0 h1
  | k + 1, names, fl, i, hi, h0, h1, hx, hl => by
    unfold pfGo
    have hn : ∀ x ∈ names ++ [nmF (flagB i) (baseText "0x" 16 (flagB i))], x.length ≤ 40 := fun x hm => by
      rcases List.mem_append.mp hm with hm | hm
      · exact hx x hm
      · rw [List.mem_singleton.mp hm]; exact nmF_len _ _ (hex_len _ (flagB_pos i (by omega)).1 (flagB_pos i (by omega)).2)
    split
    · exact pfGo_ok k names fl (i + 1) (by omega) h0 h1 hx (by omega)
    · split
      · exact ⟨by rw [List.length_append]; simp only [List.length_cons, List.length_nil]; omega, hn⟩
      · have hz := xor_pos fl (flagB i) h0 h1 (flagB_pos i (by omega)).1 (flagB_pos i (by omega)).2
        exact pfGo_ok k _ _ (i + 1) (by omega) hz.1 hz.2 hn (by rw [List.length_append]; simp only [List.length_cons, List.length_nil]; omega)
theorem sum40 : ∀ {l : List Str}, (∀ z ∈ l, z.length ≤ 40) → (l.map (·.length)).sum ≤ 40 * l.length := fun h => sum_le h
theorem prettyF_len {n : Int} (h0 : 0 ≤ n) (h1 : n < 2 ^ 33) : (prettyF n).length ≤ 1400 := by
  obtain ⟨hl, hx⟩ := pfGo_ok 32 [] n 0 (by decide) h0 h1 (fun _ h => nomatch h) (by simp)
  have h2 := StrLaws.join_length_le (Str.ofString ", ") (pfGo 32 [] n 0)
  have e : (prettyF n).length = (Str.join (Str.ofString ", ") (pfGo 32 [] n 0)).length := by
    show (Builtin.Str.glued (Str.ofString ", ") (pfGo 32 [] n 0)).length = _
    rw [StrLaws.glued_eq_join]
  have e2 : (Str.ofString ", ").length = 2 := by decide +kernel
  have h3 := sum40 hx
  rw [e2] at h2
  omega
theorem b3T_len (y : Str) (i : Nat) : (b3T y i).length ≤ y.length ∧ ((b3T y i).map (·.length)).sum ≤ 4 * y.length := by
  have h1 : (b3T y i).length ≤ y.length := by
    unfold b3T
    rw [List.length_map, List.length_take]
    exact Nat.le_trans (Nat.min_le_right ..) (by rw [Array.length_toList]; exact Nat.le_refl _)
  have h2 := sum_le (n := 4) (l := b3T y i) (fun z hz => by
    unfold b3T at hz
    obtain ⟨c, _, rfl⟩ := List.mem_map.mp hz
    exact b3F_len c)
  exact ⟨h1, Nat.le_trans h2 (Nat.mul_le_mul_left _ h1)⟩
theorem b3T_weight {n : Int} (h0 : 0 ≤ n) (h1 : n < 2 ^ 33) (i : Nat) : ((b3T (prettyF n) i).map (·.length)).sum + (b3T (prettyF n) i).length ≤ 1048576 := by
  have a := prettyF_len h0 h1
  have b := b3T_len (prettyF n) i
  omega
noncomputable def shN (fi : Int) (i : Nat) : Int := (0 + (i : Int)) * 2 ^ fi.toNat
theorem sh_lo {fi : Int} (i : Nat) : 0 ≤ (0 + (i : Int)) * 2 ^ fi.toNat := Int.mul_nonneg (by omega) (Int.le_of_lt (Int.pow_pos (by decide)))
theorem pow28 {fi : Int} (h : okFirst fi) : (2 : Int) ^ fi.toNat ≤ 2 ^ 28 := by
  have h' := h
  unfold okFirst at h'
  have e : fi.toNat ≤ 28 := by omega
  have : (2 : Nat) ^ fi.toNat ≤ 2 ^ 28 := Nat.pow_le_pow_right (by decide) e
  have c : (((2 : Nat) ^ fi.toNat : Nat) : Int) = (2 : Int) ^ fi.toNat := by rw [Int.natCast_pow]; rfl
  rw [← c]
  exact Int.ofNat_le.mpr this
theorem sh_hi {fi : Int} (h : okFirst fi) {i : Nat} (hi : i < 16) : (0 + (i : Int)) * 2 ^ fi.toNat < 2 ^ 33 := by
  have a := pow28 h
  have b : (0 + (i : Int)) * 2 ^ fi.toNat ≤ 15 * 2 ^ 28 := Int.mul_le_mul (by omega) a (Int.le_of_lt (Int.pow_pos (by decide))) (by decide)
  exact Int.lt_of_le_of_lt b (by decide)
noncomputable def textF (fi : Int) (i : Nat) : Str := joinB (prettyF (shN fi i))
noncomputable def textL (fi : Int) (i : Nat) : List Str := (List.range i).map (textF fi)
theorem text_snoc {fi : Int} {i : Nat} {ys : List Value} {t : Tok} (h : StrsAre ys (textL fi i)) : StrsAre (ys ++ [.str (textF fi i) t]) (textL fi (i + 1)) := by
  unfold textL
  rw [List.range_succ, List.map_append]
  exact h.append' (.cons _ _ .nil)
/-! the sets' words -/
noncomputable def memJ (fi : Int) (i : Nat) : Str := Txt.join (Str.ofString ", ") (memF (0 + (i : Int)) [wd fi 0, wd fi 1, wd fi 2, wd fi 3])
noncomputable def memTF (fi : Int) (i : Nat) : Str := if (memJ fi i).length = 0 then Str.ofString "0x0" else memJ fi i
noncomputable def memTL (fi : Int) (i : Nat) : List Str := (List.range i).map (memTF fi)
theorem memT_snoc {fi : Int} {i : Nat} {ys : List Value} {t : Tok} {z : Str} (e : z = memTF fi i) (h : StrsAre ys (memTL fi i)) : StrsAre (ys ++ [.str z t]) (memTL fi (i + 1)) := by
  subst e
  unfold memTL
  rw [List.range_succ, List.map_append]
  exact h.append' (.cons _ _ .nil)
theorem memT_full {fi : Int} {i : Nat} (h : (memJ fi i).length ≠ 0) : memJ fi i = memTF fi i := by unfold memTF; rw [if_neg h]
theorem memT_none {fi : Int} {i : Nat} (h : (memJ fi i).length = 0) : Str.ofString "0x0" = memTF fi i := by unfold memTF; rw [if_pos h]
theorem mem_w {fi : Int} (h : okFirst fi) (x : Int) : ((memF x [wd fi 0, wd fi 1, wd fi 2, wd fi 3]).map (·.length)).sum + (memF x [wd fi 0, wd fi 1, wd fi 2, wd fi 3]).length ≤ 1048576 := Nat.le_trans (mem_weight x (w4_all h)) (by decide)
theorem dat_strs : ∀ {xs : List Value} {ws : List Str}, StrsAre xs ws → DatAll [] xs (ws.map Dat.str)
  | _, _, .nil => .nil
  | _, _, .cons x t h => .cons (.str x t) (dat_strs h)
theorem ne_strs {prog : Program} {w : World} {A : Around} {E : Value → Shared → Prop} {s : Shared} {h₀ : Heap} {L a b : Addr} {news : List (Addr × Obj)} {xs ys : List Value} {ws : List Str} {Q : Value → Shared → Prop}
    (N : News h₀ L s.heap news) (ma : (a, LCg.lst xs) ∈ news) (mb : (b, LCg.lst ys) ∈ news) (hi : StrsAre xs ws) (hj : StrsAre ys ws) (ok : ∀ z ∈ ws, PyData.strOk z = true) (hu : A.units + 64 < cLine) (h : Q (.bool false) s) : wpAny (model prog w) A (compareOp .NotEq (.ref a) (.ref b)) Q E s :=
  kqd_ne N ma rfl rfl (dat_strs hi) (fun _ h => nomatch h) mb rfl rfl (dat_strs hj) (fun _ h => nomatch h)
    (fun d hd => by obtain ⟨z, hz, rfl⟩ := List.mem_map.mp hd; exact ok z hz) (fun d hd => by obtain ⟨z, hz, rfl⟩ := List.mem_map.mp hd; exact ok z hz) hu (by simpa using h)
theorem full_lo (fi : Int) : (0 : Int) ≤ 15 * 2 ^ fi.toNat + 2 ^ Int.toNat 32 := by
  have a : (0 : Int) < 2 ^ fi.toNat := Int.pow_pos (by decide)
  have b : (2 : Int) ^ Int.toNat 32 = 4294967296 := by decide
  omega
theorem full_hi {fi : Int} (h : okFirst fi) : (15 : Int) * 2 ^ fi.toNat + 2 ^ Int.toNat 32 < 2 ^ 33 := by
  have a := pow28 h
  have b : (2 : Int) ^ Int.toNat 32 = 4294967296 := by decide
  have c : (2 : Int) ^ 28 = 268435456 := by decide
  have d : (2 : Int) ^ 33 = 8589934592 := by decide
  omega
noncomputable def w5 (fi : Int) : List Str := [wd fi 0, wd fi 1, wd fi 2, wd fi 3, Str.ofString "0x100000000"]
theorem w5_weight {fi : Int} (h : okFirst fi) : ((w5 fi).map (·.length)).sum + (w5 fi).length ≤ 1048576 := by
  have a := wd_len h 0 (by decide)
  have b := wd_len h 1 (by decide)
  have c := wd_len h 2 (by decide)
  have d := wd_len h 3 (by decide)
  have e : (Str.ofString "0x100000000").length = 11 := by decide +kernel
  unfold w5
  simp only [List.map_cons, List.map_nil, List.sum_cons, List.sum_nil, List.length_cons, List.length_nil, e]
  omega
section
variable {prog : Program} {w : World} {A : Around} {h₀ : Heap} {L : Addr} {m : Str → Option Value} {env : Env} {ct elt : PySem.Expr} {x : Str} {scope : Scope} {cl : List (Str × Addr)} {s : Shared} {S : List (Addr × Obj) → Prop} {P : Nat → Value → Prop} {Fin : List Value → List (Addr × Obj) → Prop} {news : List (Addr × Obj)}
/-- a comprehension with one test, its turns not unrolled: what the turns made so far is R's -/
theorem test_rest {n : Nat} (R : Nat → List Value → Prop) (h0 : R 0 [])
    (turn : ∀ (i : Nat) v I oI C oC D m₂ ys h tk (E' : Value → Shared → Prop), i < n → P i v → R i ys → LCg.NsObj oC m₂ → m₂ x = some v → Fr h₀ L h m → News h₀ L h ((I, oI) :: (C, oC) :: (D, LCg.lst ys) :: news) → LCg.Off3 I C D news → ((@Ne Nat I C) ∧ (@Ne Nat I D) ∧ (@Ne Nat C D)) →
      wpAny (model prog w) A (isTrue ct (compEnvC scope cl C env) (eval ct (compEnvC scope cl C env))) (fun ok s' => if ok = true then
        wpAny (model prog w) A (eval elt (compEnvC scope cl C env)) (LCg.CompEnd h₀ L m { s with heap := h, toks := tk } I oI C oC D (LCg.lst ys) S (fun y news' => news' = news ∧ R (i + 1) (ys ++ [y]))) E' s'
        else LCg.CompEnd h₀ L m { s with heap := h, toks := tk } I oI C oC D (LCg.lst ys) S (fun _ news' => news' = news ∧ R (i + 1) ys) Value.none s') E' { s with heap := h, toks := tk })
    (fin : ∀ ys, R n ys → Fin ys news) : LCt.CompRestT prog w A h₀ L m env ct elt x scope cl s S P Fin n 0 [] news := by
  have key : ∀ (j i : Nat) (ys : List Value), i + j = n → R i ys → LCt.CompRestT prog w A h₀ L m env ct elt x scope cl s S P Fin j i ys news := by
    intro j
    induction j with
    | zero =>
      intro i ys hi hy
      have e : i = n := by omega
      subst e
      exact LCt.CompRestT.zero (fin ys hy)
    | succ j ih =>
      intro i ys hi hy
      refine LCt.CompRestT.succ ?_
      intro v I oI C oC D m₂ h tk E' hv hC hx F N off ne
      refine wpAny_mono (turn i v I oI C oC D m₂ ys h tk E' (by omega) hv hy hC hx F N off ne) (fun ok s₂ hq => ?_) fun _ _ e => e
      cases ok with
      | true =>
        rw [if_pos rfl] at hq ⊢
        refine wpAny_mono hq (fun y s₃ hq => ?_) fun _ _ e => e
        obtain ⟨h', tk', nw, e, F', N', off', hS, hn, hR⟩ := hq
        rw [hn] at N' off' hS
        exact ⟨h', tk', news, e, F', N', off', hS, ih (i + 1) _ (by omega) hR⟩
      | false =>
        rw [if_neg (by decide)] at hq ⊢
        obtain ⟨h', tk', nw, e, F', N', off', hS, hn, hR⟩ := hq
        rw [hn] at N' off' hS
        exact ⟨h', tk', news, e, F', N', off', hS, ih (i + 1) _ (by omega) hR⟩
  exact key n 0 [] (by omega) h0
end
/-! how many names a text stands for -/
noncomputable def nms (fi d0 d1 d2 : Int) : List Str := [nm fi d0, nm fi d1, nm fi d2]
noncomputable def cntL (l : List Str) (got : Str) (i : Nat) : Nat := ((l.take i).filter fun n => elF n got).length
noncomputable def sumL (fi d0 d1 d2 : Int) (i : Nat) : List Int := ((memTL fi 16).take i).map fun g => ((cntL (nms fi d0 d1 d2) g 3 : Nat) : Int)
theorem cnt_yes {l : List Str} {got n : Str} {i : Nat} {ys : List Value} {y : Value} (hn : l[i]? = some n) (he : elF n got = true) (h : ys.length = cntL l got i) : (ys ++ [y]).length = cntL l got (i + 1) := by
  unfold cntL at h ⊢
  rw [List.take_add_one, hn, List.filter_append, List.length_append, List.length_append, h]
  simp [he]
theorem cnt_no {l : List Str} {got n : Str} {i : Nat} {ys : List Value} (hn : l[i]? = some n) (he : elF n got = false) (h : ys.length = cntL l got i) : ys.length = cntL l got (i + 1) := by
  unfold cntL at h ⊢
  rw [List.take_add_one, hn, List.filter_append, List.length_append, h]
  simp [he]
theorem items3s {a b c : Str} {t0 t1 t2 : Tok} {i : Nat} {v : Value} (h : (List.toArray [Value.str a t0, Value.str b t1, Value.str c t2])[i]? = some v) : ∃ n t, v = .str n t ∧ [a, b, c][i]? = some n := by
  match i, h with
  | 0, h => exact ⟨a, t0, (Option.some.inj h).symm, rfl⟩
  | 1, h => exact ⟨b, t1, (Option.some.inj h).symm, rfl⟩
  | 2, h => exact ⟨c, t2, (Option.some.inj h).symm, rfl⟩
  | i + 3, h => simp at h
theorem strs_item {ys : List Value} {ws : List Str} {i : Nat} {v : Value} (h : StrsAre ys ws) (hv : ys.toArray[i]? = some v) : ∃ z t, v = .str z t ∧ ws[i]? = some z := by
  have hv' : ys[i]? = some v := by simpa using hv
  have hlt : i < ws.length := by
    have h1 := (List.getElem?_eq_some_iff.mp hv').1
    have : ys.length = ws.length := by
      clear hv hv' h1
      induction h with
      | nil => rfl
      | cons _ _ _ ih => simp [ih]
    omega
  obtain ⟨t, e⟩ := strs_at h i hlt
  rw [hv'] at e
  refine ⟨_, t, Option.some.inj e, ?_⟩
  rw [List.getD_eq_getElem?_getD, List.getElem?_eq_getElem hlt]; rfl
theorem ints_snoc : ∀ {us : List Value} {l : List Int} {a : Int} {t : Tok}, IntsAre us l → IntsAre (us ++ [.int a t]) (l ++ [a])
  | _, _, a, t, .nil => .cons a t .nil
  | _, _, _, _, .cons x u h => .cons x u (ints_snoc h)
theorem sum_snoc {fi d0 d1 d2 : Int} {i : Nat} {g : Str} {ys : List Value} {t : Tok} {n : Nat} (hg : (memTL fi 16)[i]? = some g) (hn : n = cntL (nms fi d0 d1 d2) g 3) (h : IntsAre ys (sumL fi d0 d1 d2 i)) : IntsAre (ys ++ [.int (n : Int) t]) (sumL fi d0 d1 d2 (i + 1)) := by
  subst hn
  unfold sumL
  rw [List.take_add_one, hg, List.map_append]
  exact ints_snoc h
/-! an ending about the three names -/
theorem nm_len {fi : Int} (h : okFirst fi) (x : Int) : (nm fi x).length ≤ 4000 := by
  unfold nm
  have h1 := prepL_len (KStt.codes (typF x (w4 fi)))
  have h2 : (KStt.codes (typF x (w4 fi))).length = (typF x (w4 fi)).length := by
    unfold KStt.codes
    rw [List.length_map, Array.length_toList]; rfl
  have h3 := typF_len h x
  omega
end Mine
namespace Mine
open PySem PySem.W PySem.Calls PyProof.Rows PyProof.V Builtin Builtin.Str StrLaws
/-! texts as lists of signs -/
noncomputable abbrev tl (x : Str) : List Nat := x.cps.toList
theorem tl_ext {x y : Str} (h : tl x = tl y) : x = y := Str.ext' (Array.toList_inj.mp h)
theorem tl_append (x y : Str) : tl (x ++ y) = tl x ++ tl y := by
  show (x ++ y).cps.toList = _
  rw [Str.cps_append, Array.toList_append]
theorem tl_len (x : Str) : x.length = (tl x).length := (Array.length_toList ..).symm
noncomputable def lj (sep : List Nat) : List (List Nat) → List Nat
  | [] => []
  | [p] => p
  | p :: q :: r => p ++ sep ++ lj sep (q :: r)
theorem tl_join (sep : Str) : ∀ ts : List Str, tl (Txt.join sep ts) = lj (tl sep) (ts.map tl)
  | [] => rfl
  | [p] => by
    show tl (glued sep [p]) = tl p
    rw [glued_eq_join]; rfl
  | p :: q :: r => by
    have ih := tl_join sep (q :: r)
    have e : Txt.join sep (p :: q :: r) = p ++ sep ++ Txt.join sep (q :: r) := by
      show glued sep (p :: q :: r) = p ++ sep ++ glued sep (q :: r)
      rw [glued_eq_join, glued_eq_join]; rfl
    rw [e, tl_append, tl_append, ih]
    rfl
theorem lj_flatMap (g : Nat → List Nat) (sep : List Nat) : ∀ L : List (List Nat), (lj sep L).flatMap g = lj (sep.flatMap g) (L.map fun l => l.flatMap g)
  | [] => rfl
  | [p] => rfl
  | p :: q :: r => by
    have ih := lj_flatMap g sep (q :: r)
    show (p ++ sep ++ lj sep (q :: r)).flatMap g = _
    rw [List.flatMap_append, List.flatMap_append, ih]
    rfl
theorem lj_nil : ∀ L : List (List Nat), lj [] L = L.flatten
  | [] => rfl
  | [p] => by simp [lj]
  | p :: q :: r => by
    have ih := lj_nil (q :: r)
    show p ++ [] ++ lj [] (q :: r) = _
    rw [ih, List.append_nil]; rfl
theorem tl_empty : tl (Str.ofString "") = [] := by decide +kernel
theorem tl_join0 (ts : List Str) : tl (Txt.join (Str.ofString "") ts) = (ts.map tl).flatten := by rw [tl_join, tl_empty, lj_nil]
theorem tl_joinB (y : Str) : tl (joinB y) = (tl y).flatMap fun c => tl (b3F c) := by
  unfold joinB b3T
  have e : y.cps.toList.take y.cps.size = y.cps.toList := List.take_of_length_le (by rw [Array.length_toList]; exact Nat.le_refl _)
  rw [e, tl_join0, List.map_map]
  rfl
/-! one sign, prepared -/
noncomputable def lowA (c : Nat) : Nat := if 65 ≤ c ∧ c ≤ 90 then c + 32 else c
theorem b3_high : (b3.all fun p => decide ((128 : Int) ≤ p.1)) = true := by decide +kernel
theorem b3_none {k : Int} (h : k < 128) : b3At k = none := by
  have key : ∀ l : List (Int × Str), (l.all fun p => decide ((128 : Int) ≤ p.1)) = true → KTD.datumAt k (l.map fun p => (p.1, PyData.str p.2)) = none := by
    intro l
    induction l with
    | nil => intro _; rfl
    | cons p l ih =>
      intro hl
      rw [List.all_cons, Bool.and_eq_true, decide_eq_true_eq] at hl
      show (if decide (k = p.1) = true then some (PyData.str p.2) else KTD.datumAt k (l.map fun p => (p.1, PyData.str p.2))) = none
      rw [if_neg (by rw [decide_eq_true_eq]; omega)]
      exact ih hl.2
  have e : KTD.datumAt k b3D = none := key b3 b3_high
  unfold b3At
  rw [e]
theorem lower_low : ∀ c : Nat, c < 128 → PySem.Txt.lower (ch c) = ch (lowA c) := by decide +kernel
theorem b3_low {c : Nat} (h : c < 128) : b3F c = ch (lowA c) := by
  unfold b3F
  rw [b3_none (by omega), lower_low c h]
theorem mem_b3 {k : Int} {x : Str} (h : (k, x) ∈ b3) : b3At k = some x := by
  have key : ∀ l : List (Int × Str), (l.map (·.1)).Nodup → (k, x) ∈ l → KTD.datumAt k (l.map fun p => (p.1, PyData.str p.2)) = some (.str x) := by
    intro l
    induction l with
    | nil => intro _ h; cases h
    | cons p l ih =>
      intro hn hm
      show (if decide (k = p.1) = true then some (PyData.str p.2) else KTD.datumAt k (l.map fun p => (p.1, PyData.str p.2))) = some (.str x)
      rw [List.map_cons, List.nodup_cons] at hn
      rcases List.mem_cons.mp hm with rfl | hm
      · rw [if_pos (by simp)]
      · rw [if_neg (by
          rw [decide_eq_true_eq]
          rintro rfl
          exact hn.1 (List.mem_map.mpr ⟨_, hm, rfl⟩))]
        exact ih hn.2 hm
  have e : KTD.datumAt k b3D = some (.str x) := key b3 b3_nodup h
  unfold b3At
  rw [e]
theorem b3F_mem {c : Nat} {x : Str} (h : ((c : Int), x) ∈ b3) : b3F c = x := by
  unfold b3F
  rw [mem_b3 h]
theorem slice_mem {α : Type} {l : List α} {i n : Nat} {f : Nat → α} (h : (l.drop i).take n = (List.range n).map f) {k : Nat} (hk : k < n) : f k ∈ l := by
  have : f k ∈ (l.drop i).take n := h ▸ List.mem_map.mpr ⟨k, List.mem_range.mpr hk, rfl⟩
  exact List.mem_of_mem_drop (List.mem_of_mem_take this)
noncomputable def pp (c : Nat) : List Nat := if b1S (c : Int) = true then [] else tl (b3F c)
theorem tl_prep (l : List Nat) : tl (prepL (l.map fun (c : Nat) => (c : Int))) = l.flatMap pp := by
  have key : ∀ (l : List Nat) (x : Str), tl ((l.map fun (c : Nat) => (c : Int)).foldl (fun acc c => if b1S c then acc else acc ++ b3F c.toNat) x) = tl x ++ l.flatMap pp := by
    intro l
    induction l with
    | nil => intro x; exact (List.append_nil _).symm
    | cons c l ih =>
      intro x
      rw [List.map_cons, List.foldl_cons, ih, List.flatMap_cons, ← List.append_assoc]
      congr 1
      unfold pp
      by_cases hb : b1S (c : Int) = true
      · rw [if_pos hb, if_pos hb, List.append_nil]
      · rw [if_neg hb, if_neg hb, tl_append]; rfl
  exact key l Str.empty
theorem b1_low : ∀ c : Nat, c < 128 → b1S (c : Int) = false := by decide +kernel
theorem pp_low {c : Nat} (h : c < 128) : pp c = [lowA c] := by
  unfold pp
  rw [b1_low c h, b3_low h]
  rfl
end Mine
namespace Mine
open PySem PySem.W PySem.Calls PyProof.Rows PyProof.V Builtin Builtin.Str StrLaws
/-! a letter of any style, prepared -/
theorem sl2 : (b3.drop 202).take 26 = (List.range 26).map fun k => (((119808 + k : Nat) : Int), ch (97 + k)) := by decide +kernel
theorem sl3 : (b3.drop 228).take 26 = (List.range 26).map fun k => (((119860 + k : Nat) : Int), ch (97 + k)) := by decide +kernel
theorem sl4 : (b3.drop 390).take 26 = (List.range 26).map fun k => (((120224 + k : Nat) : Int), ch (97 + k)) := by decide +kernel
theorem sst : (b3.drop 196).take 1 = [((64262 : Int), Str.ofString "st")] := by decide +kernel
theorem sno : (b3.drop 121).take 1 = [((8470 : Int), Str.ofString "no")] := by decide +kernel
theorem b1_big : ∀ c : Nat, c < 26 → b1S ((119808 + c : Nat) : Int) = false ∧ b1S ((119860 + c : Nat) : Int) = false ∧ b1S ((120224 + c : Nat) : Int) = false := by decide +kernel
theorem b1_two : b1S (64262 : Int) = false ∧ b1S (8470 : Int) = false := by decide +kernel
theorem pp_big {c d : Nat} (hb : b1S (c : Int) = false) (h : ((c : Int), ch d) ∈ b3) : pp c = [d] := by
  unfold pp
  rw [hb, b3F_mem h]
  rfl
noncomputable def pq (c : Nat) : List Nat := if 97 ≤ c ∧ c ≤ 122 then [c] else pp c
theorem pp_let (c : Nat) (n : Int) : pp (letF c n) = pq c := by
  unfold letF pq
  by_cases hc : 97 ≤ c ∧ c ≤ 122
  · rw [if_pos hc, if_pos hc]
    obtain ⟨k, rfl⟩ : ∃ k, c = 97 + k := ⟨c - 97, by omega⟩
    have hk : k < 26 := by omega
    have h0 : 0 ≤ n.fmod 5 := Int.fmod_nonneg_of_pos n (by decide)
    have h1 : n.fmod 5 < 5 := Int.fmod_lt_of_pos n (by decide)
    generalize n.fmod 5 = r at h0 h1
    have : r = 0 ∨ r = 1 ∨ r = 2 ∨ r = 3 ∨ r = 4 := by omega
    rcases this with rfl | rfl | rfl | rfl | rfl
    · have e : (menu5.getD (Int.toNat 0) 0 + ((97 + k : Nat) : Int) - 97).toNat = 97 + k := by show ((97 : Int) + ((97 + k : Nat) : Int) - 97).toNat = _; omega
      rw [e, pp_low (by omega)]
      unfold lowA
      rw [if_neg (by omega)]
    · have e : (menu5.getD (Int.toNat 1) 0 + ((97 + k : Nat) : Int) - 97).toNat = 65 + k := by show ((65 : Int) + ((97 + k : Nat) : Int) - 97).toNat = _; omega
      rw [e, pp_low (by omega)]
      unfold lowA
      rw [if_pos (by omega)]
      congr 1; omega
    · have e : (menu5.getD (Int.toNat 2) 0 + ((97 + k : Nat) : Int) - 97).toNat = 119808 + k := by show ((119808 : Int) + ((97 + k : Nat) : Int) - 97).toNat = _; omega
      rw [e]; exact pp_big (b1_big k hk).1 (slice_mem (f := fun k => (((119808 + k : Nat) : Int), ch (97 + k))) sl2 hk)
    · have e : (menu5.getD (Int.toNat 3) 0 + ((97 + k : Nat) : Int) - 97).toNat = 119860 + k := by show ((119860 : Int) + ((97 + k : Nat) : Int) - 97).toNat = _; omega
      rw [e]; exact pp_big (b1_big k hk).2.1 (slice_mem (f := fun k => (((119860 + k : Nat) : Int), ch (97 + k))) sl3 hk)
    · have e : (menu5.getD (Int.toNat 4) 0 + ((97 + k : Nat) : Int) - 97).toNat = 120224 + k := by show ((120224 : Int) + ((97 + k : Nat) : Int) - 97).toNat = _; omega
      rw [e]; exact pp_big (b1_big k hk).2.2 (slice_mem (f := fun k => (((120224 + k : Nat) : Int), ch (97 + k))) sl4 hk)
  · rw [if_neg hc, if_neg hc]
theorem pq_low {c : Nat} (h : c < 128) (hu : ¬ (65 ≤ c ∧ c ≤ 90)) : pq c = [c] := by
  unfold pq
  split
  · rfl
  · rw [pp_low h]; unfold lowA; rw [if_neg hu]
theorem one_mem {l : List (Int × Str)} {i : Nat} {p : Int × Str} (h : (l.drop i).take 1 = [p]) : p ∈ l := by
  have : p ∈ (l.drop i).take 1 := by rw [h]; exact List.mem_singleton.mpr rfl
  exact List.mem_of_mem_drop (List.mem_of_mem_take this)
theorem pq_st : pq 64262 = [115, 116] := by
  unfold pq pp
  rw [if_neg (by decide), if_neg (by rw [show ((64262 : Nat) : Int) = 64262 from rfl, b1_two.1]; decide), b3F_mem (c := 64262) (one_mem sst)]
  decide +kernel
theorem pq_no : pq 8470 = [110, 111] := by
  unfold pq pp
  rw [if_neg (by decide), if_neg (by rw [show ((8470 : Nat) : Int) = 8470 from rfl, b1_two.2]; decide), b3F_mem (c := 8470) (one_mem sno)]
  decide +kernel
/-! the spelled sign by sign, prepared -/
theorem charAt_get {pl : Str} {i : Nat} (h : i < pl.length) : (Txt.charAt pl (0 + (i : Int))).getD 0 = (tl pl).getD i 0 := by
  have e : seqIndex? (0 + (i : Int)) pl.length = some i := by
    unfold seqIndex?
    simp
    omega
  unfold Txt.charAt
  rw [e, List.getD_eq_getElem?_getD, Array.getElem?_toList]
  rfl
theorem range_get (l : List Nat) : (List.range l.length).map (fun i => l.getD i 0) = l := by
  apply List.ext_getElem
  · simp
  · intro i h1 h2
    simp [List.getElem?_eq_getElem h2]
theorem spell_prep (x : Int) (pl : Str) : (tl (Txt.join (Str.ofString "") (spL x pl pl.length))).flatMap pp = (tl pl).flatMap pq := by
  rw [tl_join0]
  unfold spL
  rw [List.map_map]
  have e : ∀ i ∈ List.range pl.length, (tl ∘ spC x pl) i = [letF ((tl pl).getD i 0) ((x.fdiv 2592).fdiv ((5 : Int) ^ ((0 + (i : Int)).fmod 5).toNat))] := fun i hi => by
    show tl (spC x pl i) = _
    unfold spC
    rw [charAt_get (List.mem_range.mp hi)]
  rw [List.map_congr_left e]
  have key : ∀ (R : List Nat) (a : Nat → Nat) (b : Nat → Int), ((R.map fun i => [letF (a i) (b i)]).flatten).flatMap pp = (R.map a).flatMap pq := by
    intro R a b
    induction R with
    | nil => rfl
    | cons i R ih =>
      rw [List.map_cons, List.flatten_cons, List.flatMap_append, ih, List.map_cons, List.flatMap_cons]
      congr 1
      show pp (letF (a i) (b i)) ++ [] = _
      rw [List.append_nil, pp_let]
  rw [key (List.range pl.length) (fun i => (tl pl).getD i 0) (fun i => (x.fdiv 2592).fdiv ((5 : Int) ^ ((0 + (i : Int)).fmod 5).toNat)), tl_len, range_get]
theorem replace_prep {g : Nat → List Nat} (x : Str) {y z : Str} (h : (tl z).flatMap g = (tl y).flatMap g) : (tl (Txt.replace x y z)).flatMap g = (tl x).flatMap g := by
  unfold Txt.replace
  split
  · rfl
  · have hy := glued_between_self x y (x.length + 1)
    have e : ∀ (s : Str) (ps : List Str), (tl (glued s ps)).flatMap g = lj ((tl s).flatMap g) (ps.map fun p => (tl p).flatMap g) := fun s ps => by
      have := tl_join s ps
      show (tl (Txt.join s ps)).flatMap g = _
      rw [this, lj_flatMap, List.map_map]; rfl
    conv => rhs; rw [← hy]
    rw [e, e, h]
noncomputable def okw (z : Str) : Bool := (tl z).all fun c => decide (c < 128) && !(decide (65 ≤ c) && decide (c ≤ 90))
theorem okw_pq {z : Str} (h : okw z = true) : (tl z).flatMap pq = tl z := by
  unfold okw at h
  generalize tl z = l at h ⊢
  induction l with
  | nil => rfl
  | cons c l ih =>
    rw [List.all_cons, Bool.and_eq_true, Bool.and_eq_true, decide_eq_true_eq] at h
    rw [List.flatMap_cons, ih h.2, pq_low h.1.1 (by
      have := h.1.2
      simp at this
      omega)]
    rfl
theorem dots_ok : (tl (Str.ofString "...")).flatMap pq = [46, 46, 46] ∧ tl (Str.ofString "...") = [46, 46, 46] := by
  have e : tl (Str.ofString "...") = [46, 46, 46] := by decide +kernel
  refine ⟨?_, e⟩
  rw [okw_pq (by unfold okw; rw [e]; decide), e]
theorem plF_prep (ws : List Str) (h : ∀ z ∈ ws, okw z = true) : (tl (plF ws)).flatMap pq = lj [46, 46, 46] (ws.map tl) := by
  unfold plF
  rw [replace_prep, replace_prep, tl_join, lj_flatMap, dots_ok.1, List.map_map]
  · congr 1
    exact List.map_congr_left fun z hz => okw_pq (h z hz)
  · have e : tl (Str.ofString "st") = [115, 116] := by decide +kernel
    rw [e]
    show pq 64262 ++ [] = pq 115 ++ (pq 116 ++ [])
    rw [pq_st, pq_low (by decide) (by decide), pq_low (by decide) (by decide)]; rfl
  · have e : tl (Str.ofString "no") = [110, 111] := by decide +kernel
    rw [e]
    show pq 8470 ++ [] = pq 110 ++ (pq 111 ++ [])
    rw [pq_no, pq_low (by decide) (by decide), pq_low (by decide) (by decide)]; rfl
theorem wordF_ok : ∀ n : Nat, n < 32 → okw (wordF (n : Int)) = true := by decide +kernel
theorem wd_ok {fi : Int} (h : okFirst fi) (k : Nat) (hk : k < 4) : okw (wd fi k) = true := by
  unfold wd
  have h' := h
  unfold okFirst at h'
  have := wordF_ok (fi + (0 + (k : Int))).toNat (by omega)
  rwa [Int.toNat_of_nonneg (by omega)] at this
theorem mem_mb {x : Int} {ws : List Str} {z : Str} (h : z ∈ mbF x ws) : z ∈ memF x ws := by
  unfold mbF at h
  split at h
  · exact List.mem_reverse.mp h
  · exact h
theorem memF_sub {x : Int} {a b c d : Str} {z : Str} (h : z ∈ memF x [a, b, c, d]) : z = a ∨ z = b ∨ z = c ∨ z = d := by
  unfold memF at h
  obtain ⟨k, hk, rfl⟩ := List.mem_map.mp h
  have := mem_rangeKs (List.mem_filter.mp hk).1
  have : k = 0 ∨ k = 1 ∨ k = 2 ∨ k = 3 := by omega
  rcases this with rfl | rfl | rfl | rfl <;> simp
theorem mb_ok {fi : Int} (h : okFirst fi) {x : Int} : ∀ z ∈ mbF x (w4 fi), okw z = true := fun z hz => by
  rcases memF_sub (mem_mb hz) with rfl | rfl | rfl | rfl
  · exact wd_ok h 0 (by decide)
  · exact wd_ok h 1 (by decide)
  · exact wd_ok h 2 (by decide)
  · exact wd_ok h 3 (by decide)
theorem codes_eq (a : Str) : KStt.codes a = (tl a).map fun (c : Nat) => (c : Int) := rfl
theorem nm_eq {fi : Int} (h : okFirst fi) (x : Int) : tl (nm fi x) = [46] ++ pp (signF x) ++ [46, 46] ++ lj [46, 46, 46] ((mbF x (w4 fi)).map tl) ++ [46, 46, 46] := by
  unfold nm typF typT
  rw [codes_eq, tl_prep, tl_append, tl_append, tl_append, tl_append, List.flatMap_append, List.flatMap_append, List.flatMap_append, List.flatMap_append, spell_prep, plF_prep _ (mb_ok h)]
  have e1 : (tl (Str.ofString ".")).flatMap pp = [46] := by
    rw [show tl (Str.ofString ".") = [46] by decide +kernel]
    show pp 46 ++ [] = _
    rw [pp_low (by decide)]; rfl
  have e2 : (tl (Str.ofString "..")).flatMap pp = [46, 46] := by
    rw [show tl (Str.ofString "..") = [46, 46] by decide +kernel]
    show pp 46 ++ (pp 46 ++ []) = _
    rw [pp_low (by decide)]; rfl
  have e3 : (tl (Str.ofString "...")).flatMap pp = [46, 46, 46] := by
    rw [dots_ok.2]
    show pp 46 ++ (pp 46 ++ (pp 46 ++ [])) = _
    rw [pp_low (by decide)]; rfl
  have e4 : (tl (ch (signF x))).flatMap pp = pp (signF x) := by
    show pp (signF x) ++ [] = _
    rw [List.append_nil]
  rw [e1, e2, e3, e4]
/-! the sign within the first dots, prepared -/
theorem sign_lo : ∀ r : Nat, r < 27 → pp (hiddenI.getD r 0).toNat = [] := by decide +kernel
theorem sign_hi : ∀ r : Nat, r < 5 → pp (shown5.getD r 0).toNat = [(shown5.getD r 0).toNat] ∧ (shown5.getD r 0).toNat ≠ 46 := by decide +kernel
theorem sign_none {x : Int} (h : s81 x < 54) : pp (signF x) = [] := by
  unfold signF
  rw [if_neg (by omega)]
  have h0 : 0 ≤ (s81 x).fmod 27 := Int.fmod_nonneg_of_pos _ (by decide)
  have h1 : (s81 x).fmod 27 < 27 := Int.fmod_lt_of_pos _ (by decide)
  exact sign_lo _ (by omega)
theorem sign_some {x : Int} (h : 54 ≤ s81 x) : ∃ c, c ≠ 46 ∧ pp (signF x) = [c] := by
  unfold signF
  rw [if_pos h]
  have h0 : 0 ≤ (s81 x).fmod 5 := Int.fmod_nonneg_of_pos _ (by decide)
  have h1 : (s81 x).fmod 5 < 5 := Int.fmod_lt_of_pos _ (by decide)
  exact ⟨_, (sign_hi _ (by omega)).2, (sign_hi _ (by omega)).1⟩
end Mine
namespace Mine
open PySem PySem.W PySem.Calls PyProof.Rows PyProof.V Builtin Builtin.Str StrLaws
/-! what pretty_flags names, by the flags' places -/
noncomputable def pfIdx : Nat → Int → Nat → List Nat × Option Int
  | 0, fl, _ => ([], some fl)
  | f + 1, fl, i => if Builtin.bitAnd fl (flagB i) = 0 then pfIdx f fl (i + 1) else
      if Builtin.bitXor fl (flagB i) = 0 then ([i], none) else match pfIdx f (Builtin.bitXor fl (flagB i)) (i + 1) with | (a, b) => (i :: a, b)
noncomputable def nmB (i : Nat) : Str := nmF (flagB i) (baseText "0x" 16 (flagB i))
noncomputable def rest0 : Option Int → List Str
  | none => []
  | some z => [baseText "0x" 16 z]
theorem pfGo_eq : ∀ (k : Nat) (names : List Str) (fl : Int) (i : Nat), pfGo k names fl i = names ++ (pfIdx k fl i).1.map nmB ++ rest0 (pfIdx k fl i).2
  | 0, names, fl, i => by
    show names ++ [baseText "0x" 16 fl] = names ++ [] ++ [baseText "0x" 16 fl]
    rw [List.append_nil]
  | k + 1, names, fl, i => by
    unfold pfGo pfIdx
    split
    · exact pfGo_eq k names fl (i + 1)
    · split
      · show names ++ [nmB i] = names ++ [nmB i] ++ []
        rw [List.append_nil]
      · rw [pfGo_eq k _ _ (i + 1)]
        generalize pfIdx k (Builtin.bitXor fl (flagB i)) (i + 1) = q
        obtain ⟨a, b⟩ := q
        show names ++ [nmB i] ++ a.map nmB ++ rest0 b = names ++ (nmB i :: a.map nmB) ++ rest0 b
        simp
noncomputable def bitsOf (i : Nat) : List Nat := (List.range 4).filter fun k => i / 2 ^ k % 2 == 1
theorem idx_eq : ∀ k : Nat, k < 29 → ∀ i : Nat, i < 16 → pfIdx 32 ((0 + (i : Int)) * 2 ^ k) 0 = if i = 0 then ([], some 0) else ((bitsOf i).map (k + ·), none) := by decide +kernel
theorem idx_full : ∀ k : Nat, k < 29 → pfIdx 32 (15 * 2 ^ k + 2 ^ Int.toNat 32) 0 = ([k, k + 1, k + 2, k + 3], some (2 ^ Int.toNat 32)) := by decide +kernel
theorem joinB_low {y : Str} (h : ((tl y).all fun c => decide (c < 128)) = true) : tl (joinB y) = (tl y).map lowA := by
  rw [tl_joinB]
  generalize tl y = l at h ⊢
  induction l with
  | nil => rfl
  | cons c l ih =>
    rw [List.all_cons, Bool.and_eq_true, decide_eq_true_eq] at h
    rw [List.flatMap_cons, ih h.2, b3_low h.1]
    rfl
theorem nmB_chk : ∀ i : Nat, i < 32 → (((tl (nmB i)).all fun c => decide (c < 128)) && (tl (nmB i)).map lowA == tl (wordF (i : Int))) = true := by decide +kernel
theorem nmB_eq {i : Nat} (h : i < 32) : tl (joinB (nmB i)) = tl (wordF (i : Int)) := by
  have := nmB_chk i h
  rw [Bool.and_eq_true] at this
  rw [joinB_low this.1]
  exact eq_of_beq this.2
theorem comma_low : (tl (Str.ofString ", ")).flatMap (fun c => tl (b3F c)) = [44, 32] ∧ tl (Str.ofString ", ") = [44, 32] := by
  have e : tl (Str.ofString ", ") = [44, 32] := by decide +kernel
  refine ⟨?_, e⟩
  rw [e]
  show tl (b3F 44) ++ (tl (b3F 32) ++ []) = _
  rw [b3_low (by decide), b3_low (by decide)]; rfl
theorem joinB_join (L : List Str) : tl (joinB (Txt.join (Str.ofString ", ") L)) = lj [44, 32] (L.map fun z => tl (joinB z)) := by
  rw [tl_joinB, tl_join, lj_flatMap, comma_low.1, List.map_map]
  congr 1
  exact List.map_congr_left fun z _ => (tl_joinB z).symm
theorem hex0 : tl (joinB (baseText "0x" 16 0)) = tl (Str.ofString "0x0") := by
  rw [joinB_low (by decide +kernel)]
  decide +kernel
theorem hex32 : tl (joinB (baseText "0x" 16 (2 ^ Int.toNat 32))) = tl (Str.ofString "0x100000000") := by
  rw [joinB_low (by decide +kernel)]
  decide +kernel
theorem fi_nat {fi : Int} (h : okFirst fi) : ∃ k : Nat, fi = (k : Int) ∧ k < 29 ∧ fi.toNat = k := by
  unfold okFirst at h
  exact ⟨fi.toNat, by omega, by omega, rfl⟩
theorem wd_nat (k j : Nat) : wd (k : Int) j = wordF ((k + j : Nat) : Int) := by
  unfold wd
  congr 1
  omega
theorem bits_lt {i j : Nat} (h : j ∈ bitsOf i) : j < 4 := List.mem_range.mp (List.mem_filter.mp h).1
theorem text_tl {fi : Int} (h : okFirst fi) {i : Nat} (hi : i < 16) : tl (textF fi i) = if i = 0 then tl (Str.ofString "0x0") else lj [44, 32] ((bitsOf i).map fun j => tl (wd fi j)) := by
  obtain ⟨k, rfl, hk, e⟩ := fi_nat h
  unfold textF prettyF shN
  rw [joinB_join, pfGo_eq, e, idx_eq k hk i hi]
  by_cases h0 : i = 0
  · rw [if_pos h0, if_pos h0]
    show tl (joinB (baseText "0x" 16 0)) = _
    exact hex0
  · rw [if_neg h0, if_neg h0]
    show lj [44, 32] ((([] : List Str) ++ ((bitsOf i).map (k + ·)).map nmB ++ []).map fun z => tl (joinB z)) = _
    rw [List.nil_append, List.append_nil, List.map_map, List.map_map]
    congr 1
    refine List.map_congr_left fun j hj => ?_
    show tl (joinB (nmB (k + j))) = _
    rw [nmB_eq (by have := bits_lt hj; omega), wd_nat]
theorem mem_bits : ∀ i : Nat, i < 16 → (rangeKs 0 4).filter (memC (0 + (i : Int))) = (bitsOf i).map fun (k : Nat) => (k : Int) := by decide +kernel
theorem memF_bits {i : Nat} (hi : i < 16) (ws : List Str) : memF (0 + (i : Int)) ws = (bitsOf i).map fun k => ws.getD k Str.empty := by
  unfold memF
  rw [mem_bits i hi, List.map_map]
  rfl
theorem wd_get (fi : Int) {j : Nat} (h : j < 4) : [wd fi 0, wd fi 1, wd fi 2, wd fi 3].getD j Str.empty = wd fi j := by
  have : j = 0 ∨ j = 1 ∨ j = 2 ∨ j = 3 := by omega
  rcases this with rfl | rfl | rfl | rfl <;> rfl
theorem memJ_tl {fi : Int} {i : Nat} (hi : i < 16) : tl (memJ fi i) = lj [44, 32] ((bitsOf i).map fun j => tl (wd fi j)) := by
  unfold memJ
  rw [memF_bits hi, tl_join, comma_low.2, List.map_map]
  congr 1
  exact List.map_congr_left fun j hj => by show tl ([wd fi 0, wd fi 1, wd fi 2, wd fi 3].getD j Str.empty) = _; rw [wd_get fi (bits_lt hj)]
theorem lj_ne {sep a : List Nat} {r : List (List Nat)} (h : a ≠ []) : lj sep (a :: r) ≠ [] := by
  cases r with
  | nil => exact h
  | cons b r => show a ++ sep ++ _ ≠ []; simp [h]
theorem wordF_ne : ∀ n : Nat, n < 32 → tl (wordF (n : Int)) ≠ [] := by decide +kernel
theorem bits_ne : ∀ i : Nat, i < 16 → i ≠ 0 → bitsOf i ≠ [] := by decide +kernel
theorem memT_tl {fi : Int} (h : okFirst fi) {i : Nat} (hi : i < 16) : tl (memTF fi i) = if i = 0 then tl (Str.ofString "0x0") else lj [44, 32] ((bitsOf i).map fun j => tl (wd fi j)) := by
  unfold memTF
  by_cases h0 : i = 0
  · rw [if_pos h0, if_pos]
    rw [tl_len, memJ_tl hi, h0]; rfl
  · rw [if_neg h0, if_neg, memJ_tl hi]
    rw [tl_len, memJ_tl hi]
    intro e
    have e' := List.eq_nil_of_length_eq_zero e
    cases hb : bitsOf i with
    | nil => exact bits_ne i hi h0 hb
    | cons j r =>
      rw [hb] at e'
      have hj : j < 4 := bits_lt (hb ▸ List.mem_cons_self ..)
      obtain ⟨k, rfl, hk, _⟩ := fi_nat h
      exact lj_ne (by show tl (wd (k : Int) j) ≠ []; rw [wd_nat]; exact wordF_ne _ (by omega)) e'
theorem text_eq {fi : Int} (h : okFirst fi) {i : Nat} (hi : i < 16) : textF fi i = memTF fi i := tl_ext (by rw [text_tl h hi, memT_tl h hi])
theorem texts_eq {fi : Int} (h : okFirst fi) : textL fi 16 = memTL fi 16 := List.map_congr_left fun i hi => text_eq h (List.mem_range.mp hi)
theorem lj_all {p : Nat → Prop} {sep : List Nat} (hs : ∀ c ∈ sep, p c) : ∀ {L : List (List Nat)}, (∀ l ∈ L, ∀ c ∈ l, p c) → ∀ c ∈ lj sep L, p c
  | [], _, _, h => nomatch h
  | [a], hl, c, h => hl a (List.mem_singleton.mpr rfl) c h
  | a :: b :: r, hl, c, h => by
    have h' : c ∈ a ++ sep ++ lj sep (b :: r) := h
    rcases List.mem_append.mp h' with h' | h'
    · rcases List.mem_append.mp h' with h' | h'
      · exact hl a (List.mem_cons_self ..) c h'
      · exact hs c h'
    · exact lj_all hs (fun l hm => hl l (List.mem_cons_of_mem _ hm)) c h'
theorem okw_lt {z : Str} (h : okw z = true) : ∀ c ∈ tl z, c < 128 := fun c hc => by
  have := List.all_eq_true.mp h c hc
  rw [Bool.and_eq_true, decide_eq_true_eq] at this
  exact this.1
theorem wd_okj {fi : Int} (h : okFirst fi) {j : Nat} (hj : j < 4) : ∀ c ∈ tl (wd fi j), c < 128 := okw_lt (wd_ok h j hj)
theorem memT_low {fi : Int} (h : okFirst fi) {i : Nat} (hi : i < 16) : ∀ c ∈ tl (memTF fi i), c < 128 := by
  rw [memT_tl h hi]
  split
  · decide +kernel
  · refine lj_all (by decide) fun l hl => ?_
    obtain ⟨j, hj, rfl⟩ := List.mem_map.mp hl
    exact wd_okj h (bits_lt hj)
theorem memT_ok {fi : Int} (h : okFirst fi) : ∀ z ∈ memTL fi 16, PyData.strOk z = true := fun z hz => by
  obtain ⟨i, hi, rfl⟩ := List.mem_map.mp hz
  unfold PyData.strOk
  rw [← Array.all_toList, List.all_eq_true]
  intro c hc
  have := memT_low h (List.mem_range.mp hi) c hc
  exact decide_eq_true (by omega)
theorem full_eq {fi : Int} (h : okFirst fi) : joinB (prettyF (15 * 2 ^ fi.toNat + 2 ^ Int.toNat 32)) = Txt.join (Str.ofString ", ") (w5 fi) := by
  obtain ⟨k, rfl, hk, e⟩ := fi_nat h
  apply tl_ext
  unfold prettyF w5
  rw [joinB_join, pfGo_eq, e, idx_full k hk, tl_join, comma_low.2]
  congr 1
  show [tl (joinB (nmB k)), tl (joinB (nmB (k + 1))), tl (joinB (nmB (k + 2))), tl (joinB (nmB (k + 3))), tl (joinB (baseText "0x" 16 (2 ^ Int.toNat 32)))] = [tl (wd k 0), tl (wd k 1), tl (wd k 2), tl (wd k 3), tl (Str.ofString "0x100000000")]
  rw [nmB_eq (by omega), nmB_eq (by omega), nmB_eq (by omega), nmB_eq (by omega), hex32, wd_nat, wd_nat, wd_nat, wd_nat]
  rfl
end Mine
namespace Mine
open PySem PySem.W PySem.Calls PyProof.Rows PyProof.V Builtin Builtin.Str StrLaws
noncomputable abbrev D3 : Str := Str.ofString "..."
theorem d3_tl : tl D3 = [46, 46, 46] := by decide +kernel
theorem d3_len : D3.length = 3 := by decide +kernel
theorem at_iff {x : Str} {k : Nat} : At x D3 x.length k ↔ ∃ r, (tl x).drop k = 46 :: 46 :: 46 :: r := by
  unfold At
  rw [subAt_eq, d3_len, beq_iff_eq]
  show k + 3 ≤ x.length ∧ ((tl x).drop k).take 3 = tl D3 ↔ _
  rw [d3_tl, tl_len]
  constructor
  · rintro ⟨h1, h2⟩
    have := List.take_append_drop 3 ((tl x).drop k)
    rw [h2] at this
    exact ⟨_, this.symm⟩
  · rintro ⟨r, h⟩
    have h1 := congrArg List.length h
    simp only [List.length_drop, List.length_cons] at h1
    exact ⟨by omega, by rw [h]; rfl⟩
theorem dot_in {x : Str} {k a : Nat} (h : At x D3 x.length k) (ha : a ≤ k) : 46 ∈ (tl x).drop a := by
  obtain ⟨r, e⟩ := at_iff.mp h
  have : 46 ∈ (tl x).drop k := by rw [e]; exact List.mem_cons_self ..
  have e2 : (tl x).drop k = ((tl x).drop a).drop (k - a) := by rw [List.drop_drop]; congr 1; omega
  rw [e2] at this
  exact List.mem_of_mem_drop this
theorem parts_eq (x : Str) : ∀ (P : List (List Nat)) (a : Nat) (cuts : List Nat) (f : Nat), ChainG x D3 x.length a cuts f → (∀ k, f ≤ k → ¬ At x D3 x.length k) → (tl x).drop a = lj [46, 46, 46] P → P ≠ [] → (∀ p ∈ P, 46 ∉ p) → (partsFrom x 3 a cuts).map tl = P
  | [], _, _, _, _, _, _, h, _ => absurd rfl h
  | [p], a, cuts, f, hc, hf, he, _, hp => by
    have he' : (tl x).drop a = p := he
    cases cuts with
    | nil =>
      show [tl (strSub x a x.length)] = [p]
      have e : tl (strSub x a x.length) = p := by
        show (strSub x a x.length).cps.toList = p
        rw [strSub_toList, ← he']
        exact List.take_of_length_le (by rw [List.length_drop, tl_len]; exact Nat.le_refl _)
      rw [e]
    | cons c r => exact absurd (he' ▸ dot_in hc.2.1 hc.1) (hp p (List.mem_singleton.mpr rfl))
  | p :: q :: r, a, cuts, f, hc, hf, he, _, hp => by
    have he' : (tl x).drop a = p ++ [46, 46, 46] ++ lj [46, 46, 46] (q :: r) := he
    have hA : At x D3 x.length (a + p.length) := at_iff.mpr ⟨lj [46, 46, 46] (q :: r), by
      rw [← List.drop_drop, he', List.append_assoc, List.drop_left]; rfl⟩
    have hN : ∀ k, a ≤ k → k < a + p.length → ¬ At x D3 x.length k := fun k h1 h2 h => by
      obtain ⟨s, e⟩ := at_iff.mp h
      have e2 : (tl x).drop k = ((tl x).drop a).drop (k - a) := by rw [List.drop_drop]; congr 1; omega
      rw [e2, he', List.append_assoc, List.drop_append_of_le_length (by omega)] at e
      have hlt : k - a < p.length := by omega
      rw [List.drop_eq_getElem_cons hlt] at e
      have : p[k - a] = 46 := (List.cons.inj e).1
      exact hp p (List.mem_cons_self ..) (this ▸ List.getElem_mem hlt)
    cases cuts with
    | nil =>
      have e : f = a := hc
      exact absurd hA (hf _ (by omega))
    | cons c cs =>
      obtain ⟨h1, h2, h3, h4⟩ := hc
      have hca : c = a + p.length := by
        rcases Nat.lt_trichotomy c (a + p.length) with h | h | h
        · exact absurd h2 (hN c h1 h)
        · exact h
        · exact absurd hA (h3 _ (by omega) h)
      subst hca
      rw [d3_len] at h4
      have ih := parts_eq x (q :: r) (a + p.length + 3) cs f h4 hf (by
        rw [← List.drop_drop, ← List.drop_drop, he', List.append_assoc, List.drop_left]; rfl) (by simp) fun z hz => hp z (List.mem_cons_of_mem _ hz)
      show tl (strSub x a (a + p.length)) :: (partsFrom x 3 (a + p.length + 3) cs).map tl = p :: q :: r
      rw [ih]
      congr 1
      show (strSub x a (a + p.length)).cps.toList = p
      rw [strSub_toList]
      show ((tl x).drop a).take (a + p.length - a) = p
      rw [he', Nat.add_sub_cancel_left, List.append_assoc, List.take_left]
theorem kind_d3 (x : Str) : decide (Builtin.Str.strKind x < Builtin.Str.strKind D3) = false := by
  rw [decide_eq_false_iff_not]
  have e : Builtin.Str.strKind D3 = 1 := by decide +kernel
  rw [e]; unfold Builtin.Str.strKind
  split <;> (try split) <;> (try split) <;> omega
theorem split_cuts {x : Str} {i : Nat} (h : At x D3 x.length i) : ∃ f, ChainG x D3 x.length 0 (occurrences x D3 0 x.length (x.length + 1)) f ∧ (∀ k, f ≤ k → ¬ At x D3 x.length k) ∧ occurrences x D3 0 x.length (x.length + 1) ≠ [] ∧ Txt.split x D3 = partsFrom x 3 0 (occurrences x D3 0 x.length (x.length + 1)) := by
  obtain ⟨f, hG, hn⟩ := occ_tight x D3 (by rw [d3_len]; decide)
  have hne : occurrences x D3 0 x.length (x.length + 1) ≠ [] := fun e => by
    rw [e] at hG
    have : f = 0 := hG
    exact hn i (by omega) h
  refine ⟨f, hG, hn, hne, ?_⟩
  unfold Txt.split
  rw [if_neg, if_neg, partsBetween_eq, d3_len]
  · cases he : occurrences x D3 0 x.length (x.length + 1) with
    | nil => exact absurd he hne
    | cons => simp
  · rw [kind_d3, Bool.or_false, decide_eq_true_eq, d3_len]
    have := h.1
    rw [d3_len] at this
    omega
theorem split_join3 {x : Str} {p q : List Nat} {r : List (List Nat)} (e : tl x = lj [46, 46, 46] (p :: q :: r)) (hp : ∀ z ∈ p :: q :: r, 46 ∉ z) : (Txt.split x D3).map tl = p :: q :: r := by
  have hA : At x D3 x.length p.length := at_iff.mpr ⟨lj [46, 46, 46] (q :: r), by
    rw [e]
    show (p ++ [46, 46, 46] ++ lj [46, 46, 46] (q :: r)).drop p.length = _
    rw [List.append_assoc, List.drop_left]; rfl⟩
  obtain ⟨f, hG, hn, _, hs⟩ := split_cuts hA
  rw [hs]
  exact parts_eq x (p :: q :: r) 0 _ f hG hn (by rw [List.drop_zero]; exact e) (by simp) hp
theorem has_dots {x : Str} {i : Nat} (h : At x D3 x.length i) : Txt.contains x D3 = true := by
  unfold Txt.contains
  exact (found_iff x D3).mpr ⟨i, h⟩
theorem two_parts (x : Str) (h : Txt.contains x D3 = true) : 2 ≤ (Txt.split x D3).length := by
  unfold Txt.contains at h
  obtain ⟨i, hi⟩ := (found_iff x D3).mp h
  obtain ⟨f, hG, hn, hne, hs⟩ := split_cuts (x := x) (i := i) hi
  rw [hs]
  cases hc : occurrences x D3 0 x.length (x.length + 1) with
  | nil => exact absurd hc hne
  | cons c r =>
    obtain ⟨p, q, e⟩ := partsFrom_ne x 3 (c + 3) r
    show 2 ≤ (strSub x 0 c :: partsFrom x 3 (c + 3) r).length
    rw [e]
    simp
/-! find, on lists -/
noncomputable def fndS (w : List Nat) : List Nat → Option (List Nat)
  | [] => if w.isPrefixOf [] then some ([] : List Nat) else none
  | c :: r => if w.isPrefixOf (c :: r) then some ((c :: r).drop w.length) else fndS w r
noncomputable def elL : List (List Nat) → List Nat → Bool
  | [], _ => true
  | w :: ws, g => match fndS w g with
    | none => false
    | some r => elL ws r
theorem fnd_spec (w : List Nat) : ∀ g : List Nat, (fndS w g = none ∧ ∀ i, ¬ w <+: g.drop i) ∨ ∃ i, fndS w g = some (g.drop (i + w.length)) ∧ w <+: g.drop i ∧ i ≤ g.length ∧ ∀ j, j < i → ¬ w <+: g.drop j
  | [] => by
    unfold fndS
    by_cases h : w.isPrefixOf [] = true
    · rw [if_pos h]
      exact .inr ⟨0, by simp, by simpa using List.isPrefixOf_iff_prefix.mp h, Nat.zero_le _, fun j hj => absurd hj (Nat.not_lt_zero _)⟩
    · rw [if_neg h]
      exact .inl ⟨rfl, fun i hi => h (List.isPrefixOf_iff_prefix.mpr (by simpa using hi))⟩
  | c :: r => by
    unfold fndS
    by_cases h : w.isPrefixOf (c :: r) = true
    · rw [if_pos h]
      exact .inr ⟨0, by rw [Nat.zero_add], List.isPrefixOf_iff_prefix.mp h, Nat.zero_le _, fun j hj => absurd hj (Nat.not_lt_zero _)⟩
    · rw [if_neg h]
      have h0 : ¬ w <+: c :: r := fun q => h (List.isPrefixOf_iff_prefix.mpr q)
      rcases fnd_spec w r with ⟨e, hn⟩ | ⟨i, e, hp, hl, hm⟩
      · refine .inl ⟨e, fun i => ?_⟩
        cases i with
        | zero => exact h0
        | succ i => exact hn i
      · refine .inr ⟨i + 1, ?_, hp, Nat.succ_le_succ hl, fun j hj => ?_⟩
        · rw [e]
          congr 1
          rw [show i + 1 + w.length = (i + w.length) + 1 by omega, List.drop_succ_cons]
        · cases j with
          | zero => exact h0
          | succ j => exact hm j (by omega)
theorem at_pre {x y : Str} {k : Nat} : At x y x.length k ↔ k ≤ x.length ∧ tl y <+: (tl x).drop k := by
  unfold At
  rw [subAt_eq, beq_iff_eq]
  show k + y.length ≤ x.length ∧ ((tl x).drop k).take y.length = tl y ↔ _
  rw [tl_len y, tl_len x]
  constructor
  · rintro ⟨h1, h2⟩
    exact ⟨by omega, h2 ▸ List.take_prefix ..⟩
  · rintro ⟨h0, h⟩
    have hl := h.length_le
    rw [List.length_drop] at hl
    exact ⟨by omega, (List.prefix_iff_eq_take.mp h).symm⟩
theorem find4_eq {got w : Str} {sp : Nat} (h : sp ≤ got.length) : (find4 got w (sp : Int) (got.length : Int) = -1 ∧ fndS (tl w) ((tl got).drop sp) = none) ∨
    ∃ k : Nat, find4 got w (sp : Int) (got.length : Int) = (k : Int) ∧ k + w.length ≤ got.length ∧ fndS (tl w) ((tl got).drop sp) = some ((tl got).drop (k + w.length)) := by
  have e0 : ∀ n : Nat, fromIndex got.length (n : Int) = n := fun n => by unfold fromIndex; rw [if_neg (by omega)]; omega
  have e1 := e0 sp
  have e2 : min (fromIndex got.length (got.length : Int)) got.length = got.length := by rw [e0]; exact Nat.min_self _
  unfold find4
  rw [e1, e2]
  rcases occ_head_from got w sp 1 (Nat.le_refl 1) with ⟨e, hn⟩ | ⟨i, r, e, hlo, ha, hm⟩
  · rw [e]
    refine .inl ⟨rfl, ?_⟩
    rcases fnd_spec (tl w) ((tl got).drop sp) with ⟨e', _⟩ | ⟨i, _, hp, hl, _⟩
    · exact e'
    · rw [List.drop_drop] at hp
      rw [List.length_drop, ← tl_len] at hl
      exact absurd (at_pre.mpr ⟨by omega, hp⟩) (hn (sp + i) (by omega))
  · rw [e]
    refine .inr ⟨i, rfl, ha.1, ?_⟩
    have hp := (at_pre.mp ha).2
    rcases fnd_spec (tl w) ((tl got).drop sp) with ⟨_, hn⟩ | ⟨j, e', hp', hl, hm'⟩
    · exfalso
      refine hn (i - sp) ?_
      rw [List.drop_drop, show sp + (i - sp) = i by omega]
      exact hp
    · have hij : i = sp + j := by
        rw [List.drop_drop] at hp'
        rw [List.length_drop, ← tl_len] at hl
        rcases Nat.lt_trichotomy i (sp + j) with q | q | q
        · exfalso
          refine hm' (i - sp) (by omega) ?_
          rw [List.drop_drop, show sp + (i - sp) = i by omega]
          exact hp
        · exact q
        · exact absurd (at_pre.mpr ⟨by omega, hp'⟩) (hm (sp + j) (by omega) q)
      rw [e', List.drop_drop, hij, ← tl_len w]
      congr 2
      omega
theorem elLoop_eq (got : Str) : ∀ (ws : List Str) (sp : Nat), sp ≤ got.length → elLoop ws got (sp : Int) (got.length : Int) = elL (ws.map tl) ((tl got).drop sp)
  | [], _, _ => rfl
  | w :: ws, sp, h => by
    show (if find4 got w (sp : Int) (got.length : Int) < 0 then false else elLoop ws got (find4 got w (sp : Int) (got.length : Int) + w.length) (got.length : Int)) = (match fndS (tl w) ((tl got).drop sp) with | none => false | some r => elL (ws.map tl) r)
    rcases find4_eq (w := w) h with ⟨e, e'⟩ | ⟨k, e, hk, e'⟩
    · rw [e, e']; rfl
    · rw [e, e', if_neg (by omega)]
      have := elLoop_eq got ws (k + w.length) hk
      rw [Int.natCast_add] at this
      exact this
end Mine
namespace Mine
open PySem PySem.W PySem.Calls PyProof.Rows PyProof.V Builtin Builtin.Str StrLaws
/-! which sets' texts a list of words stands for: all windows, decided -/
noncomputable def subB (a i : Nat) : Bool := (bitsOf a).all fun k => (bitsOf i).contains k
noncomputable def lone (a : Nat) : Bool := ([0, 1, 2, 4, 8] : List Nat).contains a
noncomputable def frc : List Nat → (List Nat → Bool) → Bool
  | [], k => k []
  | c :: r, k => frc r fun r' => k (c :: r')
theorem frc_eq : ∀ (l : List Nat) (k : List Nat → Bool), frc l k = k l
  | [], _ => rfl
  | c :: r, k => frc_eq r _
noncomputable def txW (W : List (List Nat)) (i : Nat) : List Nat := if i = 0 then [48, 120, 48] else lj [44, 32] ((bitsOf i).map fun j => W.getD j [])
noncomputable def pat (W : List (List Nat)) (a : Nat) : List (List Nat) := if a = 0 then [[]] else (bitsOf a).map fun j => W.getD j []
noncomputable def chkW (W : List (List Nat)) : Bool := (List.range 16).all fun i => frc (txW W i) fun g => (List.range 16).all fun a => (elL (pat W a) g == subB a i) && (elL (pat W a).reverse g == (lone a && subB a i))
noncomputable def winW (k : Nat) : List (List Nat) := [tl (wordF ((k + 0 : Nat) : Int)), tl (wordF ((k + 1 : Nat) : Int)), tl (wordF ((k + 2 : Nat) : Int)), tl (wordF ((k + 3 : Nat) : Int))]
theorem chk_all : ∀ k : Nat, k < 29 → (k < 5 ∨ 8 ≤ k) → chkW (winW k) = true := by decide +kernel
theorem chk_at {W : List (List Nat)} (h : chkW W = true) {i a : Nat} (hi : i < 16) (ha : a < 16) : elL (pat W a) (txW W i) = subB a i ∧ elL (pat W a).reverse (txW W i) = (lone a && subB a i) := by
  unfold chkW at h
  have h1 := List.all_eq_true.mp h i (List.mem_range.mpr hi)
  rw [frc_eq] at h1
  have h2 := List.all_eq_true.mp h1 a (List.mem_range.mpr ha)
  rw [Bool.and_eq_true] at h2
  exact ⟨eq_of_beq h2.1, eq_of_beq h2.2⟩
theorem win_get (k : Nat) {j : Nat} (h : j < 4) : (winW k).getD j [] = tl (wd (k : Int) j) := by
  have : j = 0 ∨ j = 1 ∨ j = 2 ∨ j = 3 := by omega
  rcases this with rfl | rfl | rfl | rfl <;> (rw [wd_nat]; rfl)
theorem tx_eq {k : Nat} (h : okFirst (k : Int)) {i : Nat} (hi : i < 16) : tl (memTF (k : Int) i) = txW (winW k) i := by
  rw [memT_tl h hi]
  unfold txW
  by_cases h0 : i = 0
  · rw [if_pos h0, if_pos h0]; decide +kernel
  · rw [if_neg h0, if_neg h0]
    congr 1
    exact List.map_congr_left fun j hj => (win_get k (bits_lt hj)).symm
/-! a name's words -/
noncomputable def maskOf (x : Int) : Nat := (x.fmod 16).toNat
theorem mask_lt (x : Int) : maskOf x < 16 := by
  have h0 : 0 ≤ x.fmod 16 := Int.fmod_nonneg_of_pos x (by decide)
  have h1 : x.fmod 16 < 16 := Int.fmod_lt_of_pos x (by decide)
  unfold maskOf
  omega
theorem mem_mask (x : Int) (ws : List Str) : memF x ws = (bitsOf (maskOf x)).map fun k => ws.getD k Str.empty := by
  rw [← memF_bits (mask_lt x) ws]
  unfold memF
  congr 1
  refine List.filter_congr fun k hk => ?_
  have hk' := mem_rangeKs hk
  have h4 : k = 0 ∨ k = 1 ∨ k = 2 ∨ k = 3 := by omega
  have hm : (0 + ((maskOf x : Nat) : Int)) = x % 16 := by
    unfold maskOf
    have h0 : 0 ≤ x.fmod 16 := Int.fmod_nonneg_of_pos x (by decide)
    rw [Int.fmod_eq_emod_of_nonneg x (by decide)] at h0 ⊢
    omega
  unfold memC
  rw [hm]
  have e : ∀ (y d : Int), 0 ≤ d → (y.fdiv d).fmod 2 = (y / d) % 2 := fun y d hd => by rw [Int.fdiv_eq_ediv_of_nonneg y hd, Int.fmod_eq_emod_of_nonneg _ (by decide)]
  rcases h4 with rfl | rfl | rfl | rfl
  · rw [e _ _ (by decide), e _ _ (by decide)]
    have : (2 : Int) ^ Int.toNat 0 = 1 := by decide
    rw [this]
    congr 1; apply propext; omega
  · rw [e _ _ (by decide), e _ _ (by decide)]
    have : (2 : Int) ^ Int.toNat 1 = 2 := by decide
    rw [this]
    congr 1; apply propext; omega
  · rw [e _ _ (by decide), e _ _ (by decide)]
    have : (2 : Int) ^ Int.toNat 2 = 4 := by decide
    rw [this]
    congr 1; apply propext; omega
  · rw [e _ _ (by decide), e _ _ (by decide)]
    have : (2 : Int) ^ Int.toNat 3 = 8 := by decide
    rw [this]
    congr 1; apply propext; omega
theorem memF_tl (k : Nat) (x : Int) : (memF x (w4 (k : Int))).map tl = (bitsOf (maskOf x)).map fun j => (winW k).getD j [] := by
  rw [mem_mask, List.map_map]
  refine List.map_congr_left fun j hj => ?_
  show tl ([wd (k : Int) 0, wd (k : Int) 1, wd (k : Int) 2, wd (k : Int) 3].getD j Str.empty) = _
  rw [wd_get _ (bits_lt hj), win_get k (bits_lt hj)]
theorem bits_zero : ∀ a : Nat, a < 16 → (bitsOf a = [] ↔ a = 0) := by decide +kernel
/-- a name without a sign of its own, between its dots -/
noncomputable def inner (x : Int) (k : Nat) : List (List Nat) := if (x.fdiv 16).fmod 2 = 1 then (pat (winW k) (maskOf x)).reverse else pat (winW k) (maskOf x)
theorem pat_lj (W : List (List Nat)) {a : Nat} (ha : a < 16) : lj [46, 46, 46] (pat W a) = lj [46, 46, 46] ((bitsOf a).map fun j => W.getD j []) ∧ lj [46, 46, 46] (pat W a).reverse = lj [46, 46, 46] ((bitsOf a).map fun j => W.getD j []).reverse ∧ pat W a ≠ [] := by
  unfold pat
  by_cases h : a = 0
  · subst h; exact ⟨rfl, rfl, by simp⟩
  · rw [if_neg h]
    refine ⟨rfl, rfl, fun e => h ((bits_zero a ha).mp (List.map_eq_nil_iff.mp e))⟩
theorem inner_lj (x : Int) (k : Nat) : lj [46, 46, 46] ((mbF x (w4 (k : Int))).map tl) = lj [46, 46, 46] (inner x k) ∧ inner x k ≠ [] := by
  obtain ⟨h1, h2, h3⟩ := pat_lj (winW k) (mask_lt x)
  unfold mbF inner
  split
  · rw [List.map_reverse, memF_tl, h2]
    exact ⟨rfl, fun e => h3 (List.reverse_eq_nil_iff.mp e)⟩
  · rw [memF_tl, h1]
    exact ⟨rfl, h3⟩
theorem lj_snoc (sep : List Nat) : ∀ (L : List (List Nat)), L ≠ [] → lj sep (L ++ [[]]) = lj sep L ++ sep
  | [], h => absurd rfl h
  | [a], _ => by show a ++ sep ++ [] = a ++ sep; rw [List.append_nil]
  | a :: b :: r, _ => by
    have ih := lj_snoc sep (b :: r) (by simp)
    show a ++ sep ++ lj sep (b :: r ++ [[]]) = a ++ sep ++ lj sep (b :: r) ++ sep
    rw [ih]
    simp
theorem lj_cons (sep a : List Nat) {L : List (List Nat)} (h : L ≠ []) : lj sep (a :: L) = a ++ sep ++ lj sep L := by
  cases L with
  | nil => exact absurd rfl h
  | cons b r => rfl
theorem wordF_dot : ∀ n : Nat, n < 32 → 46 ∉ tl (wordF (n : Int)) := by decide +kernel
theorem win_dot {k : Nat} (hk : k < 29) {a : Nat} : ∀ z ∈ pat (winW k) a, 46 ∉ z := fun z hz => by
  unfold pat at hz
  split at hz
  · rw [List.mem_singleton.mp hz]; simp
  · obtain ⟨j, hj, rfl⟩ := List.mem_map.mp hz
    have := bits_lt hj
    rw [win_get k this, wd_nat]
    exact wordF_dot _ (by omega)
theorem inner_dot {k : Nat} (hk : k < 29) (x : Int) : ∀ z ∈ inner x k, 46 ∉ z := fun z hz => by
  unfold inner at hz
  split at hz
  · exact win_dot hk z (List.mem_reverse.mp hz)
  · exact win_dot hk z hz
theorem map_tl_nil {ws : List Str} {L : List (List Nat)} (h : ws.map tl = [] :: (L ++ [[]])) : (ws.headD Str.empty).length = 0 ∧ (ws.getLastD Str.empty).length = 0 := by
  constructor
  · cases ws with
    | nil => rfl
    | cons a r =>
      have : tl a = [] := (List.cons.inj h).1
      show a.length = 0
      rw [tl_len, this]; rfl
  · have h' : ws.map tl = ([] :: L) ++ [[]] := h
    rcases List.eq_nil_or_concat ws with rfl | ⟨r, a, rfl⟩
    · rfl
    · rw [List.concat_eq_append] at h' ⊢
      rw [List.map_append] at h'
      have := (List.append_inj' h' rfl).2
      have e : tl a = [] := by simpa using this
      rw [show (r ++ [a]).getLastD Str.empty = a by simp, tl_len, e]; rfl
theorem fnd_nil (g : List Nat) : fndS [] g = some g := by cases g <;> rfl
theorem elL_last : ∀ (L : List (List Nat)) (g : List Nat), elL (L ++ [[]]) g = elL L g
  | [], g => by show (match fndS [] g with | none => false | some r => elL [] r) = true; rw [fnd_nil]; rfl
  | w :: L, g => by
    show (match fndS w g with | none => false | some r => elL (L ++ [[]]) r) = (match fndS w g with | none => false | some r => elL L r)
    cases fndS w g with
    | none => rfl
    | some r => exact elL_last L r
theorem el_inner {k : Nat} (hk : k < 29) {x : Int} {want got : Str} (e : tl want = lj [46, 46, 46] ([] :: (inner x k ++ [[]]))) : elF want got = elL (inner x k) (tl got) := by
  have hne := (inner_lj x k).2
  obtain ⟨q, r, hqr⟩ : ∃ q r, inner x k ++ [[]] = q :: r := by
    cases hh : inner x k with
    | nil => exact ⟨_, _, rfl⟩
    | cons a b => exact ⟨_, _, rfl⟩
  have hs : (Txt.split want D3).map tl = [] :: (inner x k ++ [[]]) := by
    rw [hqr] at e ⊢
    refine split_join3 e fun z hz => ?_
    rw [← hqr] at hz
    rcases List.mem_cons.mp hz with rfl | hz
    · simp
    · rcases List.mem_append.mp hz with hz | hz
      · exact inner_dot hk x z hz
      · rw [List.mem_singleton.mp hz]; simp
  have hA : At want D3 want.length 0 := at_iff.mpr ⟨lj [46, 46, 46] (inner x k ++ [[]]), by
    rw [e, List.drop_zero, lj_cons _ _ (by rw [hqr]; simp)]; rfl⟩
  obtain ⟨h1, h2⟩ := map_tl_nil hs
  unfold elF
  rw [if_pos (has_dots hA), w_empty h1, e_empty h2, t_le (by omega)]
  have := elLoop_eq got (Txt.split want D3) 0 (Nat.zero_le _)
  rw [List.drop_zero, hs] at this
  refine this.trans ?_
  show (match fndS [] (tl got) with | none => false | some r => elL (inner x k ++ [[]]) r) = _
  rw [fnd_nil]
  exact elL_last _ _
theorem el_signed {c : Nat} (hc : c ≠ 46) {M : List Nat} {want got : Str} (e : tl want = 46 :: c :: M ++ [46, 46, 46]) (hg : ∀ z r, tl got = z :: r → z ≠ 46) : elF want got = false := by
  have hA : At want D3 want.length (M.length + 2) := at_iff.mpr ⟨[], by
    rw [e, show M.length + 2 = (46 :: c :: M).length from rfl, List.drop_left]⟩
  obtain ⟨f, hG, hn, hne, hs⟩ := split_cuts hA
  unfold elF
  rw [if_pos (has_dots hA), hs]
  cases hcs : occurrences want D3 0 want.length (want.length + 1) with
  | nil => exact absurd hcs hne
  | cons d r =>
    rw [hcs] at hG
    have hd := hG.2.1
    have hd1 : d ≠ 0 := by
      rintro rfl
      obtain ⟨q, hq⟩ := at_iff.mp hd
      rw [e] at hq
      simp at hq
      exact hc hq.1
    have hdl := (at_pre.mp hd).1
    have ht : tl (strSub want 0 d) = (tl want).take d := by
      show (strSub want 0 d).cps.toList = _
      rw [strSub_toList, List.drop_zero, Nat.sub_zero]
    obtain ⟨u, hu⟩ : ∃ u, tl (strSub want 0 d) = 46 :: u := by
      rw [ht, e]
      cases d with
      | zero => exact absurd rfl hd1
      | succ d => exact ⟨_, rfl⟩
    have hlen : (strSub want 0 d).length ≠ 0 := by rw [tl_len, hu]; simp
    refine w_nostart (ws := strSub want 0 d :: partsFrom want 3 (d + D3.length) r) ?_ ?_
    · exact hlen
    · show Txt.startswith got (strSub want 0 d) = false
      rw [Bool.eq_false_iff]
      intro hst
      unfold Txt.startswith at hst
      rw [Bool.and_eq_true, subAt_eq, beq_iff_eq, List.drop_zero] at hst
      have h2 : (tl got).take (strSub want 0 d).length = 46 :: u := hst.2.trans hu
      cases hgc : tl got with
      | nil => rw [hgc] at h2; simp at h2
      | cons z q =>
        rw [hgc, tl_len, hu] at h2
        exact hg z q hgc (List.cons.inj h2).1
/-! how many of the names a set's text stands for, and the sums undone -/
noncomputable def vB (m : Int) (i : Nat) : Bool := decide (0 ≤ m) && decide (m < 16) && subB m.toNat i
theorem lone_any (x : Int) : lone (maskOf x) = (([0, 1, 2, 4, 8] : List Int).any fun z => z == x.fmod 16) := by
  unfold lone maskOf
  have h0 : 0 ≤ x.fmod 16 := Int.fmod_nonneg_of_pos x (by decide)
  have h3 : x.fmod 16 < 16 := Int.fmod_lt_of_pos x (by decide)
  generalize x.fmod 16 = r at *
  have : r = 0 ∨ r = 1 ∨ r = 2 ∨ r = 3 ∨ r = 4 ∨ r = 5 ∨ r = 6 ∨ r = 7 ∨ r = 8 ∨ r = 9 ∨ r = 10 ∨ r = 11 ∨ r = 12 ∨ r = 13 ∨ r = 14 ∨ r = 15 := by omega
  rcases this with rfl | rfl | rfl | rfl | rfl | rfl | rfl | rfl | rfl | rfl | rfl | rfl | rfl | rfl | rfl | rfl <;> rfl
theorem meant_mask {x : Int} (h1 : (x.fdiv 16).fmod 2 = 0 ∨ lone (maskOf x) = true) (h2 : s81 x < 54) : meantF x = (maskOf x : Int) := by
  have h0 : 0 ≤ x.fmod 16 := Int.fmod_nonneg_of_pos x (by decide)
  rw [lone_any] at h1
  have e : meantF x = x.fmod 16 := if_pos ⟨h1, h2⟩
  rw [e]
  unfold maskOf
  omega
theorem meant_none {x : Int} (h : ¬ (((x.fdiv 16).fmod 2 = 0 ∨ lone (maskOf x) = true) ∧ s81 x < 54)) : meantF x = 16 := by
  rw [lone_any] at h
  exact if_neg h
theorem memT_dot {fi : Int} (h : okFirst fi) {i : Nat} (hi : i < 16) : ∀ z r, tl (memTF fi i) = z :: r → z ≠ 46 := by
  obtain ⟨k, rfl, hk, _⟩ := fi_nat h
  intro z r e
  have h46 : ∀ c ∈ tl (memTF (k : Int) i), c ≠ 46 := by
    rw [memT_tl h hi]
    split
    · decide +kernel
    · refine lj_all (by decide) fun l hl c hc e => ?_
      obtain ⟨j, hj, rfl⟩ := List.mem_map.mp hl
      have hc' : c ∈ tl (wd (k : Int) j) := hc
      rw [wd_nat] at hc'
      exact wordF_dot _ (by have := bits_lt hj; omega) (e ▸ hc')
  exact h46 z (by rw [e]; exact List.mem_cons_self ..)
theorem el_name {fi : Int} (h : okFirst fi) (x : Int) {i : Nat} (hi : i < 16) : elF (nm fi x) (memTF fi i) = vB (meantF x) i := by
  obtain ⟨k, rfl, hk, _⟩ := fi_nat h
  have hn := nm_eq h x
  have hin := inner_lj x k
  have hw : k < 5 ∨ 8 ≤ k := by unfold okFirst at h; omega
  have v16 : vB 16 i = false := rfl
  by_cases hs : s81 x < 54
  · rw [sign_none hs, hin.1] at hn
    have e : tl (nm (k : Int) x) = lj [46, 46, 46] ([] :: (inner x k ++ [[]])) := by
      rw [hn, lj_cons _ _ (by simp), lj_snoc _ _ hin.2]
      simp
    rw [el_inner hk e, tx_eq h hi]
    have hc := chk_at (chk_all k hk hw) hi (mask_lt x)
    unfold inner
    by_cases hr : (x.fdiv 16).fmod 2 = 1
    · rw [if_pos hr, hc.2]
      by_cases hl : lone (maskOf x) = true
      · rw [meant_mask (.inr hl) hs, hl]
        have := mask_lt x
        unfold vB
        rw [decide_eq_true (by omega), decide_eq_true (by omega)]
        rfl
      · rw [meant_none (fun q => q.1.elim (fun z => by omega) hl), v16]
        rw [Bool.not_eq_true] at hl
        rw [hl]; rfl
    · rw [if_neg hr, hc.1]
      have h0 : (x.fdiv 16).fmod 2 = 0 := by
        have a := Int.fmod_nonneg_of_pos (x.fdiv 16) (show (0 : Int) < 2 by decide)
        have b := Int.fmod_lt_of_pos (x.fdiv 16) (show (0 : Int) < 2 by decide)
        omega
      rw [meant_mask (.inl h0) hs]
      have := mask_lt x
      unfold vB
      rw [decide_eq_true (by omega), decide_eq_true (by omega)]
      rfl
  · obtain ⟨c, hc, ec⟩ := sign_some (x := x) (by omega)
    rw [ec] at hn
    rw [meant_none (fun q => hs q.2), v16]
    exact el_signed (M := [46, 46] ++ lj [46, 46, 46] ((mbF x (w4 (k : Int))).map tl)) hc (by rw [hn]; simp) (memT_dot h hi)
/-! the sums -/
noncomputable def vec (m : Int) : List Int := (List.range 16).map fun i => if vB m i = true then 1 else 0
noncomputable def unit (m : Int) : List Int := (List.range 16).map fun (i : Nat) => if m = (i : Int) then 1 else 0
noncomputable def vadd (a b : List Int) : List Int := List.zipWith (· + ·) a b
theorem vadd_get (a b : List Int) (h : a.length = b.length) (i : Nat) : (vadd a b).getD i 0 = a.getD i 0 + b.getD i 0 := by
  unfold vadd
  rw [List.getD_eq_getElem?_getD, List.getD_eq_getElem?_getD, List.getD_eq_getElem?_getD]
  by_cases hi : i < a.length
  · rw [List.getElem?_eq_getElem (by rw [List.length_zipWith]; omega), List.getElem?_eq_getElem hi, List.getElem?_eq_getElem (h ▸ hi), List.getElem_zipWith]
    rfl
  · rw [List.getElem?_eq_none (by rw [List.length_zipWith]; omega), List.getElem?_eq_none (by omega), List.getElem?_eq_none (by omega)]
    rfl
theorem vadd_len (a b : List Int) (h : a.length = b.length) : (vadd a b).length = a.length := by unfold vadd; rw [List.length_zipWith]; omega
theorem vadd_set (a b : List Int) (h : a.length = b.length) (i : Nat) (u v : Int) : (vadd a b).set i (u + v) = vadd (a.set i u) (b.set i v) := by
  unfold vadd
  apply List.ext_getElem
  · simp
  · intro j h1 h2
    simp only [List.getElem_set, List.getElem_zipWith]
    split <;> rfl
theorem und_add (k : Nat) (a b : List Int) (h : a.length = b.length) (f : Nat) : undStep k (vadd a b) f = vadd (undStep k a f) (undStep k b f) := by
  unfold undStep
  split
  · rw [vadd_get a b h, vadd_get a b h, ← vadd_set a b h]
    congr 1
    omega
  · rfl
theorem undI_add (k : Nat) (a b : List Int) (h : a.length = b.length) : ∀ f, undI k f (vadd a b) = vadd (undI k f a) (undI k f b)
  | 0 => rfl
  | f + 1 => by rw [undI_succ, undI_succ, undI_succ, undI_add k a b h f, und_add _ _ _ (by rw [undI_len, undI_len, h])]
theorem undK_add (a b : List Int) (h : a.length = b.length) : ∀ k, undK k (vadd a b) = vadd (undK k a) (undK k b)
  | 0 => rfl
  | k + 1 => by rw [undK_succ, undK_succ, undK_succ, undK_add a b h k, undI_add _ _ _ (by rw [undK_len, undK_len, h])]
theorem undF_add (a b : List Int) (h : a.length = b.length) : undF (vadd a b) = vadd (undF a) (undF b) := undK_add a b h 4
theorem und_vecN : ∀ m : Nat, m < 17 → undF (vec (m : Int)) = unit (m : Int) := by decide +kernel
theorem meant_range (x : Int) : 0 ≤ meantF x ∧ meantF x ≤ 16 := by
  have h0 : 0 ≤ x.fmod 16 := Int.fmod_nonneg_of_pos x (by decide)
  have h3 : x.fmod 16 < 16 := Int.fmod_lt_of_pos x (by decide)
  unfold meantF
  split <;> omega
theorem und_vec (x : Int) : undF (vec (meantF x)) = unit (meantF x) := by
  have := meant_range x
  have h := und_vecN (meantF x).toNat (by omega)
  rwa [Int.toNat_of_nonneg (by omega)] at h
theorem vec_len (m : Int) : (vec m).length = 16 := by unfold vec; simp
theorem sum_vec {fi : Int} (h : okFirst fi) (d0 d1 d2 : Int) : sumL fi d0 d1 d2 16 = vadd (vadd (vec (meantF d0)) (vec (meantF d1))) (vec (meantF d2)) := by
  have e1 : sumL fi d0 d1 d2 16 = (List.range 16).map fun i => ((cntL (nms fi d0 d1 d2) (memTF fi i) 3 : Nat) : Int) := by
    unfold sumL memTL
    rw [List.take_of_length_le (by simp), List.map_map]
    rfl
  have e2 : vadd (vadd (vec (meantF d0)) (vec (meantF d1))) (vec (meantF d2)) = (List.range 16).map fun i => (if vB (meantF d0) i = true then 1 else 0) + (if vB (meantF d1) i = true then 1 else 0) + (if vB (meantF d2) i = true then (1 : Int) else 0) := by
    unfold vadd vec
    rw [List.zipWith_map, List.zipWith_self, List.zipWith_map, List.zipWith_self]
  rw [e1, e2]
  refine List.map_congr_left fun i hi => ?_
  have hi' := List.mem_range.mp hi
  unfold cntL nms
  show (((([nm fi d0, nm fi d1, nm fi d2] : List Str).filter fun n => elF n (memTF fi i)).length : Nat) : Int) = _
  simp only [List.filter_cons, List.filter_nil, el_name h _ hi']
  cases vB (meantF d0) i <;> cases vB (meantF d1) i <;> cases vB (meantF d2) i <;> rfl
theorem und_sum {fi : Int} (h : okFirst fi) (d0 d1 d2 : Int) : undF (sumL fi d0 d1 d2 16) = (List.range 16).map fun (i : Nat) => (if meantF d0 = (i : Int) then 1 else 0) + (if meantF d1 = (i : Int) then 1 else 0) + (if meantF d2 = (i : Int) then (1 : Int) else 0) := by
  rw [sum_vec h, undF_add _ _ (by rw [vadd_len _ _ (by rw [vec_len, vec_len]), vec_len, vec_len]), undF_add _ _ (by rw [vec_len, vec_len]), und_vec, und_vec, und_vec]
  unfold vadd unit
  rw [List.zipWith_map, List.zipWith_self, List.zipWith_map, List.zipWith_self]
noncomputable def cntV (d0 d1 d2 : Int) (i : Nat) : List Int := (List.range i).map fun (j : Nat) => ((([meantF d0, meantF d1, meantF d2] : List Int).count (0 + (j : Int)) : Nat) : Int)
theorem und_cnt {fi : Int} (h : okFirst fi) (d0 d1 d2 : Int) : undF (sumL fi d0 d1 d2 16) = cntV d0 d1 d2 16 := by
  rw [und_sum h]
  refine List.map_congr_left fun i _ => ?_
  rw [Int.zero_add]
  simp only [List.count_cons, List.count_nil, beq_iff_eq]
  split <;> split <;> split <;> simp
theorem sumL_len (fi d0 d1 d2 : Int) : (sumL fi d0 d1 d2 16).length = 16 := by
  unfold sumL memTL
  simp
end Mine
namespace Mine
open PySem PySem.W PySem.Calls PyProof.Rows PyProof.V
theorem off1_mem {D : Addr} : ∀ {l : List (Addr × Obj)}, LCg.Off1 D l → ∀ p ∈ l, p.1 ≠ D
  | [], _, _, h => nomatch h
  | _ :: _, o, p, h => by
    rcases List.mem_cons.mp h with rfl | h
    · exact o.1
    · exact off1_mem o.2 p h
theorem pruneA {h₀ h : Heap} {L D : Addr} {o : Obj} {l : List (Addr × Obj)} {j k : Nat} {b c : Addr × Obj} (N : News h₀ L h ((D, o) :: l)) (oS : LCg.Off1 D l) (hb : l[j]? = some b) (hc : l[k]? = some c) (h3 : b.1 ≠ c.1) : News h₀ L h [(D, o), b, c] ∧ D ≠ b.1 ∧ D ≠ c.1 ∧ b.1 ≠ c.1 :=
  ⟨fun p hp => by
    simp only [List.mem_cons, List.mem_nil_iff, or_false] at hp
    rcases hp with rfl | rfl | rfl
    · exact N _ (List.mem_cons_self ..)
    · exact N _ (List.mem_cons_of_mem _ (List.mem_of_getElem? hb))
    · exact N _ (List.mem_cons_of_mem _ (List.mem_of_getElem? hc)), Ne.symm (off1_mem oS _ (List.mem_of_getElem? hb)), Ne.symm (off1_mem oS _ (List.mem_of_getElem? hc)), h3⟩
theorem strs_len : ∀ {ys : List Value} {ws : List Str}, StrsAre ys ws → ys.length = ws.length
  | _, _, .nil => rfl
  | _, _, .cons _ _ h => by simp [strs_len h]
theorem ne_str' {prog : Program} {w : World} {A : Around} {E : Value → Shared → Prop} {s : Shared} {x y : Str} {t u : Tok} {Q : Value → Shared → Prop} (e : x = y) (h : Q (.bool false) s) : wpAny (model prog w) A (compareOp .NotEq (.str x t) (.str y u)) Q E s := by
  subst e
  exact PyProof.Rows.ne_str (by simpa using h)
theorem beq_tt {b : Bool} (h : (b == true) = true) : b = true := by cases b <;> first | rfl | cases h
theorem beq_tf {b : Bool} (h : (b == true) = false) : b = false := by cases b <;> first | rfl | cases h
theorem cntL_le (l : List Str) (g : Str) (i : Nat) : cntL l g i ≤ i := by
  unfold cntL
  exact Nat.le_trans (List.length_filter_le ..) (by rw [List.length_take]; exact Nat.min_le_left ..)
theorem len_fit {us : List Value} {l : List Str} {g : Str} (h : us.length = cntL l g 3) : (us.toArray.size : Int) < 2 ^ 63 := by
  rw [List.size_toArray, h]
  exact Int.lt_of_le_of_lt (Int.ofNat_le.mpr (cntL_le l g 3)) (by decide)
theorem undone_use {prog : Program} {w : World} {K : Frag} {p : Program} {loose : List Str} {mean : ExcName → Option Value} {mg mb : Str → Option Value} {f : Addr} {p0 : Addr × Obj} {news : List (Addr × Obj)} {k : Nat} {vs : List Value} {ws : List Int}
    (C : CtU prog w K p loose mean mg mb f (p0 :: news) k vs ws) {dp un : Nat} {gd : Option (List Code)} {cn : Str} {cs : Scope} {a : Addr} {ccd : Value} {cl : List (Str × Addr)} {outer : List Env} {A₀ : Around} {base h₀ : Heap} {L : Addr} {m : Str → Option Value} {s : Shared} {Q E : Value → Shared → Prop}
    (B : Below A₀ base outer h₀) (F : Fr h₀ L s.heap m) (X : K.In h₀) (N : News h₀ L s.heap news) (hm : p0 ∈ news) (T : Top p loose mean mg mb h₀) (hk : cs.kind = .function) (hd : dp + k < recursionLimit) (hu : un + 8 * k < cLine)
    (h : ∀ (b : Addr) (us : List Value) (ne : Nat) (h' : Heap) (tk' : Nat), Fr h₀ L h' m → News h₀ L h' ((b, W.listOf us.toArray ne) :: news) → LCg.Off1 b news → IntsAre us ws → Q (.ref b) { s with heap := h', toks := tk' }) :
    wpAny (model prog w) (ktrTop dp un gd cn cs L a ccd cl outer) (call (.ref f) vs) Q E s := C _ _ _ _ _ _ _ _ _ _ _ _ _ _ _ _ _ B F X
      (fun p hp => by
        rcases List.mem_cons.mp hp with rfl | hp
        · exact N _ hm
        · exact N _ hp) T hk hd hu (fun b us ne h' tk' F' N' o' S' => h b us ne h' tk' F' (fun p hp => N' p (by
        rcases List.mem_cons.mp hp with rfl | hp
        · exact List.mem_cons_self ..
        · exact List.mem_cons_of_mem _ (List.mem_cons_of_mem _ hp))) (LCg.Off3.one (I := b) (C := b) (LCg.Off3.of fun p hp => ⟨o' p (List.mem_cons_of_mem _ hp), o' p (List.mem_cons_of_mem _ hp), o' p (List.mem_cons_of_mem _ hp)⟩)) S')
theorem text_le {fi : Int} (h : okFirst fi) {g : Str} {i : Nat} (hg : (memTL fi 16)[i]? = some g) : g.length ≤ 4000 := by
  obtain ⟨j, hj, rfl⟩ := List.mem_map.mp (List.mem_of_getElem? hg)
  unfold memTF
  split
  · decide +kernel
  · exact Nat.le_trans (join_len (mem_weight _ (w4_all h)) (memF_len _ _) (by decide +kernel)) (by decide)
theorem nm_le {fi d0 d1 d2 : Int} (h : okFirst fi) {n : Str} {i : Nat} (hn : [nm fi d0, nm fi d1, nm fi d2][i]? = some n) : n.length ≤ 4000 := by
  have := List.mem_of_getElem? hn
  simp only [List.mem_cons, List.mem_nil_iff, or_false] at this
  rcases this with rfl | rfl | rfl <;> exact nm_len h _
noncomputable def mtL (ds : List Int) (i : Nat) : List Int := (ds.take i).map meantF
theorem mt_snoc {d : Int} {ds : List Int} {i : Nat} {ys : List Value} {t : Tok} (hd : ds[i]? = some d) (h : IntsAre ys (mtL ds i)) : IntsAre (ys ++ [.int (meantF d) t]) (mtL ds (i + 1)) := by
  unfold mtL
  rw [List.take_add_one, hd, List.map_append]
  exact ints_snoc h
noncomputable def cntG (a b c : Int) (i : Nat) : List Int := (List.range i).map fun (j : Nat) => ((([a, b, c] : List Int).count (0 + (j : Int)) : Nat) : Int)
theorem cntG_snoc {a b c : Int} {i : Nat} {ys : List Value} {t : Tok} (h : IntsAre ys (cntG a b c i)) : IntsAre (ys ++ [.int ((([a, b, c] : List Int).count (0 + (i : Int)) : Nat) : Int) t]) (cntG a b c (i + 1)) := by
  unfold cntG
  rw [List.range_succ, List.map_append]
  exact ints_snoc h
theorem cntG_snoc' {a b c : Int} {i : Nat} {ys : List Value} {t : Tok} {z : Int} (e : z = ((([a, b, c] : List Int).count (0 + (i : Int)) : Nat) : Int)) (h : IntsAre ys (cntG a b c i)) : IntsAre (ys ++ [.int z t]) (cntG a b c (i + 1)) := e ▸ cntG_snoc h
theorem ints3 {ys : List Value} {d0 d1 d2 : Int} (h : IntsAre ys (mtL [d0, d1, d2] 3)) : ∃ t0 t1 t2, ys = [.int (meantF d0) t0, .int (meantF d1) t1, .int (meantF d2) t2] := by
  have h' : IntsAre ys [meantF d0, meantF d1, meantF d2] := h
  cases h' with
  | cons _ t0 h => cases h with
    | cons _ t1 h => cases h with
      | cons _ t2 h => cases h; exact ⟨t0, t1, t2, rfl⟩
end Mine
namespace Mine
open PySem PySem.W PySem.Calls PyProof.Rows PyProof.V
local macro_rules | `(tactic| k_qdec) => `(tactic| decide +kernel)
local macro_rules | `(tactic| walk_at "eval Name") => `(tactic| (k_here; (with_reducible show wpAny _ _ (eval (Expr.Name _ _) (compEnvC _ _ _ _)) _ _ _); k_dflt (refine LCgL.ld_global (by k_asm) (by k_asm) (by k_asm) (by k_is) ?_)))
local macro_rules | `(tactic| walk_at "eval IfExp") => `(tactic| (k_here; refine Stop.out ?_))
local macro_rules | `(tactic| walk_at "mine:use") => `(tactic| (
  (case k1 => k_asm); (case k2 => k_asm); (case k3 => k_asm); (case k4 => k_asm); (case k5 => k_asm); (case kK => first | exact rfl | assumption); (case kd => first | ktr_room | decide); (case ku => first | ktr_units | decide);
  intro t9 h9 tk9 F9 N9; (try dsimp only); (try k_fold)))
local macro_rules | `(tactic| walk_at "LCg.CompSrc") => `(tactic| (k_here; refine Stop.out ?_))
local macro_rules | `(tactic| walk_at "CompSrc") => `(tactic| (k_here; refine Stop.out ?_))
local macro_rules | `(tactic| walk_at "call ref") => `(tactic| (k_here; (with_reducible show wpAny _ _ (call (Value.ref 100) [Value.ref _]) _ _ _); refine Stop.out ?_))
local macro_rules | `(tactic| walk_at "call ref") => `(tactic| (k_here; (with_reducible show wpAny _ _ (call (Value.ref 138) [Value.str _ _]) _ _ _); k_dflt (refine' ct_use (prep_ok _ _ _ _ _ _ _ _ _ (typ_le (by assumption) _)) ?k1 ?k2 ?k3 ?k4 ?k5 ?kK ?kd ?ku ?_); walk_at "mine:use"))
local macro_rules | `(tactic| walk_at "call ref") => `(tactic| (k_here; (with_reducible show wpAny _ _ (call (Value.ref 131) _) _ _ _); refine Stop.out ?_))
local macro_rules | `(tactic| walk_at "call ref") => `(tactic| (k_here; (with_reducible show wpAny _ _ (call (Value.ref 112) _) _ _ _); refine Stop.out ?_))
local macro_rules | `(tactic| walk_at "compareOp NotEq ref ref") => `(tactic| (k_here; refine Stop.out ?_))
local macro_rules | `(tactic| walk_at "compareOp NotEq str str") => `(tactic| (k_here; refine Stop.out ?_))
local macro_rules | `(tactic| walk_at "compareOp Eq ref ref") => `(tactic| (k_here; refine Stop.out ?_))
local macro_rules | `(tactic| walk_at "CompSrcT") => `(tactic| (k_here; refine Stop.out ?_))
local macro_rules | `(tactic| walk_at "Mine.CellSrc") => `(tactic| (k_here; refine Stop.out ?_))
local macro_rules | `(tactic| walk_at "CellSrc") => `(tactic| (k_here; refine Stop.out ?_))
local macro_rules | `(tactic| walk_at "exec Assign cons ListComp") => `(tactic| (k_here; (with_reducible show wpAny _ _ (exec (Stmt.Assign [Expr.Name "sums" _] _ _) _) _ _ _); k_dflt (refine assign_cell_comp (by k_asm) (by rfl) (by with_unfolding_all rfl) (by with_unfolding_all rfl) (by rfl) (by decide) (by rfl) (fun _ => rfl) (fun _ => rfl) (by rfl) (by rfl) ?_)))
local macro_rules | `(tactic| walk_at "call ref") => `(tactic| (k_here; (with_reducible show wpAny _ _ (call (Value.ref 93) _) _ _ _); refine Stop.out ?_))
local macro_rules | `(tactic| walk_at "call ref") => `(tactic| (k_here; (with_reducible show wpAny _ _ (call (Value.ref 145) _) _ _ _); refine Stop.out ?_))
local macro_rules | `(tactic| walk_at "call builtin:len") => `(tactic| (k_here; (with_reducible show wpAny _ _ (call (Value.builtin "len") [Value.ref _]) _ _ _); refine Stop.out ?_))
local macro_rules | `(tactic| walk_at "call builtin:str.join") => `(tactic| (k_here; refine Stop.out ?_))
local macro_rules | `(tactic| walk_at "eval ListComp") => `(tactic| (k_here; (with_reducible show wpAny _ _ (eval (Expr.ListComp (Expr.Call (Expr.Name "map_table_b3" _) _ _ _) _ _ _) _) _ _ _); k_dflt (refine txt_comp (by k_asm) (by with_unfolding_all rfl) (by decide) (by rfl) (by decide) (by rfl) ?_)))
local macro_rules | `(tactic| walk_at "Mine.TxtSrc") => `(tactic| (k_here; refine Stop.out ?_))
local macro_rules | `(tactic| walk_at "TxtSrc") => `(tactic| (k_here; refine Stop.out ?_))
local macro_rules | `(tactic| walk_at "call ref") => `(tactic| (k_here; (with_reducible show wpAny _ _ (call (Value.ref 78) [Value.str _ _]) _ _ _); k_dflt (refine' ct_use (ct_of (map_b3_ok _ _ _ _ _ _ _ _ _)) ?k1 ?k2 ?k3 ?k4 ?k5 ?kK ?kd ?ku ?_); walk_at "mine:use"))
local macro_rules | `(tactic| walk_at "call ref") => `(tactic| (k_here; (with_reducible show wpAny _ _ (call (Value.ref 107) [Value.int _ _]) _ _ _); k_dflt (refine' ct_use (ct_of (word_ok _ _ _ _ _ _ _ _ _ (by omega) (by omega))) ?k1 ?k2 ?k3 ?k4 ?k5 ?kK ?kd ?ku ?_); walk_at "mine:use"))
local macro_rules | `(tactic| walk_at "call ref") => `(tactic| (k_here; (with_reducible show wpAny _ _ (call (Value.ref 152) [Value.int _ _]) _ _ _); k_dflt (refine' ct_use (ct_of (meant_ok _ _ _ _ _ _ _ _ _ (by omega))) ?k1 ?k2 ?k3 ?k4 ?k5 ?kK ?kd ?ku ?_); walk_at "mine:use"))
local macro_rules | `(tactic| walk_at "call ref") => `(tactic| (k_here; (with_reducible show wpAny _ _ (call (Value.ref 86) _) _ _ _); refine Stop.out ?_))
set_option maxHeartbeats 0 in
theorem law_t : PySem.Challenge.rw_rw0102_01.Holds := by
  w_on
  refine holds_law ws fun said => ?_
  refine PySem.W.holds_open (q := Mine.q) (loose := Mine.loose) (Xt := Mine.Xt) (XP := XL Mine.q []) (Yf := Mine.Hk.obs) (Ya := Mine.Hk.val) (YP := Mine.Hk.says) (N := Mine.NN) Mine.left (Hook.of Mine.Hk) (Hook.keeps Mine.Hk)
    (fun s e => xl_of s (Bool.and_eq_true_iff.mp e).1) XL.keeps (by rfl) (by rfl) (by rfl) (fun s e => recFacts_of (Bool.and_eq_true_iff.mp e).2) (by rfl) (by assumption) (by decide +kernel) ⟨rfl, rfl, rfl, rfl, rfl, by decide +kernel⟩ ?hw ?hc
  case hw => w_witness2
  have hfill : PySem.Challenge.rw_rw0102_01 = PySem.Challenge.rw_rw0102_01 → KK = KK := by
    k_fill
    intro _; rfl
  clear hfill
  k_go0
  (all_goals try k_fold)
  (rename Glob _ _ _ _ _ _ _ _ => glX; clear glX)
  k_steps
  refine Stop.inn ?_
  refine' drawn_use (drawn_ok _ _ _ _ _ _ _ _ _ _ (by assumption) (le63 (by assumption) (by assumption))) ?k1 ?k2 ?k3 ?k4 ?k5 ?k6 ?kK ?kd ?ku ?_
  (case k1 => k_asm)
  (case k2 => k_asm)
  (case k3 => k_asm)
  (case k4 => k_asm)
  (case k5 => k_asm)
  (case k6 => assumption)
  (case kK => first | exact rfl | assumption)
  (case kd => first | ktr_room | decide)
  (case ku => first | ktr_units | decide)
  intro b9 d0 d1 d2 d3 t0 t1 t2 t3 ne9 h9 tk9 hd0 hd1 hd2 hd3 F9 N9 o9
  have o9h := PySem.Flt.Hid.mk (off1_mem o9 _ (List.mem_cons_self ..))
  (try simp only [LCg.Off1, and_true] at o9)
  (try dsimp only)
  (try k_fold)
  k_steps
  refine Stop.inn ?_
  refine join_first ?h1 ?h2
  case h1 =>
    with_reducible refine IfExp_ ?_
    k_steps
    · exact ⟨_, _, _, ok_lo (by assumption), rfl, rfl⟩
    · exact ⟨_, _, _, ok_hi (by assumption), rfl, rfl⟩
  intro fi hfi tfi tkfi
  (try dsimp only)
  k_steps
  refine Stop.inn ?_
  refine LCg.CompSrc.range (n := 4) (by rfl) (by k_asm) (by k_asm) (by assumption) (by decide) (by rfl) (by decide) ?_
  intro gg
  refine map_rest (fun i ys => StrsAre ys (wdL fi i)) .nil ?_ ?_
  · intro i v I' oI' C' oC' D' m' ys' h' tk' E' hi hv hR hC' hx' F' N' off' ne'
    obtain ⟨tv, rfl⟩ := hv
    (try dsimp only)
    have hfi' := hfi
    unfold okFirst at hfi'
    k_steps
    exact ⟨_, _, _, rfl, by k_asm, by k_asm, off', trivial, rfl, wd_snoc hR⟩
  intro ys hys
  obtain ⟨tw0, tw1, tw2, tw3, rfl⟩ := wd4 hys
  clear hys
  (try dsimp only)
  k_steps
  refine Stop.inn ?_
  refine LCg.CompSrc.ledger (by rfl) (by k_asm) (by k_asm) (by k_mem) (by first | size_fits | exact Nat.le_of_ble_eq_true rfl) ?_
  intro gg2
  refine map_rest (fun i ys => StrsAre ys (nmL fi [d0, d1, d2] i)) .nil ?_ ?_
  · intro i v I' oI' C' oC' D' m' ys' h' tk' E' hi hv hR hC' hx' F' N' off' ne'
    obtain ⟨d, td, rfl, hd⟩ := items3 hv
    have hdp := pos3 hd0 hd1 hd2 hd
    (try dsimp only)
    k_steps
    refine Stop.inn ?_
    refine' ctp_use (typed_ok _ _ _ _ _ _ _ _ 4 (wd fi 0) (wd fi 1) (wd fi 2) (wd fi 3) _ _ _ _ d _ hdp (wd_len hfi 0 (by decide)) (wd_len hfi 1 (by decide)) (wd_len hfi 2 (by decide)) (wd_len hfi 3 (by decide))) ?k1 ?k2 ?k3 ?k4 ?k6 ?k5 ?kK ?kd ?ku ?_
    (case k1 => k_asm)
    (case k2 => k_asm)
    (case k3 => k_asm)
    (case k4 => k_asm)
    (case k6 => k_mem)
    (case k5 => k_asm)
    (case kK => first | exact rfl | assumption)
    (case kd => first | ktr_room | decide)
    (case ku => first | ktr_units | decide)
    intro t9 h9 tk9 F9 N9
    (try dsimp only)
    (try k_fold)
    k_steps
    exact ⟨_, _, _, rfl, by k_asm, by k_asm, off', .inr ⟨_, by k_mem, rfl, _, rfl⟩, rfl, nm_snoc hd hR⟩
  intro ys hys
  obtain ⟨n0, n1, n2, rfl⟩ := strs3 hys
  clear hys
  (try dsimp only)
  k_steps
  refine Stop.inn ?_
  refine LCg.CompSrc.range (n := 16) (by rfl) (by k_asm) (by k_asm) (by assumption) (by decide) (by rfl) (by decide) ?_
  intro gg3
  refine map_rest (fun i ys => StrsAre ys (textL fi i)) .nil ?_ ?_
  · intro i v I' oI' C' oC' D' m' ys' h' tk' E' hi hv hR hC' hx' F' N' off' ne'
    obtain ⟨tv, rfl⟩ := hv
    have hfi' := hfi
    unfold okFirst at hfi'
    have hlo := sh_lo (fi := fi) i
    have hhi := sh_hi hfi hi
    (try dsimp only)
    k_steps
    refine Stop.inn ?_
    refine' ct_use (ct_of (pretty_ok _ _ _ _ _ _ _ _ _ hlo hhi)) ?k1 ?k2 ?k3 ?k4 ?k5 ?kK ?kd ?ku ?_
    walk_at "mine:use"
    k_steps
    refine Stop.inn ?_
    refine TxtSrc.mk (by rfl) (by k_asm) (by k_asm) (by rw [sizeLine_eq]; have := prettyF_len hlo hhi; exact Nat.le_trans this (by decide)) ?_
    intro gg4
    refine map_rest (fun j ys => StrsAre ys (b3T (prettyF ((0 + (i : Int)) * 2 ^ fi.toNat)) j)) .nil ?_ ?_
    · intro i' v' I2' oI2' C2' oC2' D2' m2' ys2' h2' tk2' E2' hi2 hv2 hR2 hC2' hx2' F2' N2' off2' ne2'
      obtain ⟨c, tc, hc, rfl⟩ := hv2
      (try dsimp only)
      k_steps
      exact ⟨_, _, _, rfl, by k_asm, by k_asm, off2', trivial, rfl, b3_snoc hc hR2⟩
    · intro ys2 hys2
      (try dsimp only)
      k_steps
      refine Stop.inn ?_
      refine join_listW (News.isList (by k_asm) (by k_mem)) hys2 (by decide +kernel) (b3T_weight hlo hhi _) ?_
      intro t' k'
      (try dsimp only)
      k_steps
      exact ⟨_, _, _, rfl, by k_asm, cb_drop (by k_asm) (by kcj_all), off', trivial, rfl, text_snoc hR⟩
  intro ys hysO
  obtain ⟨TX, hTX, hys⟩ : ∃ TX, PySem.Flt.Hid (TX = textL fi 16) ∧ StrsAre ys TX := ⟨_, PySem.Flt.Hid.mk rfl, hysO⟩
  clear hysO
  (try dsimp only)
  k_steps
  refine Stop.inn ?_
  refine LCg.CompSrc.range (n := 16) (by rfl) (by k_asm) (by k_asm) (by assumption) (by decide) (by rfl) (by decide) ?_
  intro gg5
  refine map_rest (fun i ys => StrsAre ys (memTL fi i)) .nil ?_ ?_
  · intro i v I' oI' C' oC' D' m' ys' h' tk' E' hi hv hR hC' hx' F' N' off' ne'
    obtain ⟨tv, rfl⟩ := hv
    have hxp : 0 ≤ 0 + (i : Int) := by omega
    (try dsimp only)
    k_steps
    refine Stop.inn ?_
    refine' ctl_use (members_ok _ _ _ _ _ _ _ _ 4 (wd fi 0) (wd fi 1) (wd fi 2) (wd fi 3) _ _ _ _ _ _ hxp) ?k1 ?k2 ?k3 ?k4 ?k6 ?k5 ?kK ?kd ?ku ?_
    (case k1 => k_asm)
    (case k2 => k_asm)
    (case k3 => k_asm)
    (case k4 => k_asm)
    (case k6 => k_mem)
    (case k5 => k_asm)
    (case kK => first | exact rfl | assumption)
    (case kd => first | ktr_room | decide)
    (case ku => first | ktr_units | decide)
    intro b9 us9 ne9 h9 tk9 F9 N9 o9 S9
    (try simp only [LCg.Off1, and_true] at o9)
    (try dsimp only)
    (try k_fold)
    k_steps
    refine Stop.inn ?_
    refine join_listW (News.isList (by k_asm) (by k_mem)) S9 (by decide +kernel) (mem_w hfi _) ?_
    intro t' k'
    (try dsimp only)
    k_steps
    refine truthy_rule (Nat.le_trans (join_len (mem_weight _ (w4_all hfi)) (memF_len _ _) (by decide +kernel)) (by decide)) ?_ ?_
    · intro hne k9
      (try dsimp only)
      k_steps
      exact ⟨_, _, _, rfl, by k_asm, cb_drop (by k_asm) (by kcj_all), off', trivial, rfl, memT_snoc (memT_full hne) hR⟩
    · intro hne k9
      (try dsimp only)
      k_steps
      exact ⟨_, _, _, rfl, by k_asm, cb_drop (by k_asm) (by kcj_all), off', trivial, rfl, memT_snoc (memT_none hne) hR⟩
  intro ys2 hysO
  obtain ⟨TM, hTM, hys2⟩ : ∃ TM, PySem.Flt.Hid (TM = memTL fi 16) ∧ StrsAre ys2 TM := ⟨_, PySem.Flt.Hid.mk rfl, hysO⟩
  clear hysO
  have hXM : TX = TM := hTX.out.trans ((texts_eq hfi).trans hTM.out.symm)
  subst hXM
  (try dsimp only)
  k_steps
  refine Stop.inn ?_
  have hfi' := hfi
  unfold okFirst at hfi'
  refine ne_strs (by k_asm) (by k_mem) (by k_mem) hys hys2 (by rw [hTM.out]; exact memT_ok hfi) (by ke_room) ?_
  clear hys2 hTX
  (try dsimp only)
  k_steps
  refine Stop.inn ?_
  have flo := full_lo fi
  have fhi := full_hi hfi
  refine' ct_use (ct_of (pretty_ok _ _ _ _ _ _ _ _ _ flo fhi)) ?k1 ?k2 ?k3 ?k4 ?k5 ?kK ?kd ?ku ?_
  walk_at "mine:use"
  k_steps
  refine Stop.inn ?_
  refine TxtSrc.mk (by rfl) (by k_asm) (by k_asm) (by rw [sizeLine_eq]; have := prettyF_len flo fhi; exact Nat.le_trans this (by decide)) ?_
  intro gg6
  refine map_rest (fun j ys => StrsAre ys (b3T (prettyF (15 * 2 ^ fi.toNat + 2 ^ Int.toNat 32)) j)) .nil ?_ ?_
  · intro i' v' I2' oI2' C2' oC2' D2' m2' ys2' h2' tk2' E2' hi2 hv2 hR2 hC2' hx2' F2' N2' off2' ne2'
    obtain ⟨c, tc, hc, rfl⟩ := hv2
    (try dsimp only)
    k_steps
    exact ⟨_, _, _, rfl, by k_asm, by k_asm, off2', trivial, rfl, b3_snoc hc hR2⟩
  intro ys3 hysO
  obtain ⟨B3, hB3, hys3⟩ : ∃ B3, B3 = b3T (prettyF (15 * 2 ^ fi.toNat + 2 ^ Int.toNat 32)) (prettyF (15 * 2 ^ fi.toNat + 2 ^ Int.toNat 32)).cps.size ∧ StrsAre ys3 B3 := ⟨_, rfl, hysO⟩
  clear hysO
  have hBw : (B3.map (·.length)).sum + B3.length ≤ 1048576 := by rw [hB3]; exact b3T_weight flo fhi _
  have hBj : PySem.Flt.Hid (Txt.join (Str.ofString "") B3 = Txt.join (Str.ofString ", ") (w5 fi)) := PySem.Flt.Hid.mk (by rw [hB3]; exact full_eq hfi)
  clear hB3
  (try dsimp only)
  k_steps
  refine Stop.inn ?_
  refine join_listW (News.isList (by k_asm) (by k_mem)) hys3 (by decide +kernel) hBw ?_
  intro t' k'
  clear hys3 hBw
  (try dsimp only)
  k_steps
  refine Stop.inn ?_
  refine join_listW (ys := w5 fi) (News.isList (by k_asm) (by k_mem)) (.cons _ _ (.cons _ _ (.cons _ _ (.cons _ _ (.cons _ _ .nil))))) (by decide +kernel) (w5_weight hfi) ?_
  intro t2 k2
  (try dsimp only)
  k_steps
  refine Stop.inn ?_
  refine ne_str' hBj.out ?_
  clear hBj
  (try dsimp only)
  k_steps
  refine Stop.inn ?_
  have hy16 : ys.toArray.size = 16 := by rw [List.size_toArray, strs_len hys, hTM.out]; unfold memTL; simp
  refine ⟨_, _, _, _, fun i zs => IntsAre zs (sumL fi d0 d1 d2 i), rfl, by rfl, by k_asm, by k_asm, by k_mem, by rw [hy16, sizeLine_eq]; decide, .nil, ?_, ?_⟩
  · intro gS IS i v oI C oC D c oc zs h tk E' hv hR hoc F' N' off' o1' ne'
    obtain ⟨gt, tg, rfl, hg⟩ := strs_item hys hv
    rw [hTM.out] at hg
    (try dsimp only)
    k_steps
    refine Stop.inn ?_
    refine LCt.CompSrcT.ledger (by rfl) (by k_asm) (by k_asm) (by k_mem) (by first | size_fits | exact Nat.le_of_ble_eq_true rfl) ?_
    intro gg7
    refine test_rest (fun j us => us.length = cntL (nms fi d0 d1 d2) gt j) rfl ?_ ?_
    · intro j v2 I2' oI2' C2' oC2' D2' m2' us2 h2' tk2' E2' hj hv2 hR2 hC2' hx2' F2' N2' off2' ne2'
      obtain ⟨n, tn, rfl, hn⟩ := items3s hv2
      (try dsimp only)
      k_steps
      refine Stop.inn ?_
      refine' ct_use (ct_of (el_ok _ _ _ _ _ _ _ n gt _ _ (nm_le hfi hn) (text_le hfi hg) (two_parts n))) ?k1 ?k2 ?k3 ?k4 ?k5 ?kK ?kd ?ku ?_
      walk_at "mine:use"
      k_steps
      · exact ⟨_, _, _, rfl, by k_asm, by k_asm, off2', .inr ⟨_, by k_mem, rfl, _, rfl⟩, rfl, cnt_yes hn (beq_tt (by assumption)) hR2⟩
      · exact ⟨_, _, _, rfl, by k_asm, by k_asm, off2', .inr ⟨_, by k_mem, rfl, _, rfl⟩, rfl, cnt_no hn (beq_tf (by assumption)) hR2⟩
    · intro us hus
      have hus' : us.length = cntL (nms fi d0 d1 d2) gt 3 := hus
      (try dsimp only)
      k_steps
      refine Stop.inn ?_
      refine PyProof.Rows.len_list (News.isList (by k_asm) (by k_mem)) (len_fit hus') ?_
      (try dsimp only)
      k_steps
      exact ⟨_, _, _, rfl, by k_asm, cb_drop (by k_asm) (by kcj_all), off', trivial, rfl, sum_snoc hg ((List.size_toArray ..).trans hus') hR⟩
  intro gS zs hzO
  rw [hy16] at hzO
  obtain ⟨SM, hzs, hS16, hSu⟩ : ∃ SM, IntsAre zs SM ∧ SM.length = 16 ∧ PySem.Flt.Hid (undF SM = cntV d0 d1 d2 16) := ⟨_, hzO, sumL_len _ _ _ _, PySem.Flt.Hid.mk (und_cnt hfi _ _ _)⟩
  clear hzO
  clear hys hTM hy16
  unfold LCg.FinA
  intro DS hS tkS FS NS oS
  have PR := pruneA (j := 8) (k := 9) NS oS rfl rfl (Ne.symm o9h.out)
  obtain ⟨NS2, e1, e2, e3⟩ := PR
  dsimp only at e1 e2 e3
  have e4 := PySem.Flt.Hid.mk (And.intro e1 (And.intro e2 e3))
  clear NS oS e1 e2 e3
  repeat (rename (_ ≠ _ ∧ _) => hx9; clear hx9)
  repeat (rename (_ < _ ∧ _) => hx9; clear hx9)
  obtain ⟨e1, e2, e3⟩ := e4.out
  clear e4
  (try dsimp only)
  k_steps
  refine Stop.inn ?_
  refine LCg.CompSrc.ledger (by rfl) (by k_asm) (by k_asm) (by k_mem) (by first | size_fits | exact Nat.le_of_ble_eq_true rfl) ?_
  intro gg8
  refine map_rest (fun i ys => IntsAre ys (mtL [d0, d1, d2] i)) .nil ?_ ?_
  · intro i v I' oI' C' oC' D' m' ys' h' tk' E' hi hv hR hC' hx' F' N' off' ne'
    obtain ⟨d, td, rfl, hd⟩ := items3 hv
    have hdp := pos3 hd0 hd1 hd2 hd
    (try dsimp only)
    k_steps
    exact ⟨_, _, _, rfl, by k_asm, by k_asm, off', .inr ⟨_, by k_mem, rfl, _, rfl⟩, rfl, mt_snoc hd hR⟩
  intro ms hms
  obtain ⟨M0, M1, M2, tm0, tm1, tm2, rfl, hSu⟩ : ∃ (M0 M1 M2 : Int) (tm0 tm1 tm2 : Tok), ms = [.int M0 tm0, .int M1 tm1, .int M2 tm2] ∧ PySem.Flt.Hid (undF SM = cntG M0 M1 M2 16) := by
    obtain ⟨a, b, c, e⟩ := ints3 hms
    exact ⟨_, _, _, a, b, c, e, hSu⟩
  clear hms
  (try dsimp only)
  k_steps
  refine Stop.inn ?_
  have hz16 : zs.length = 16 := by rw [hzs.length, hS16]
  refine' undone_use (undone_ok _ _ _ _ _ _ _ _ 16 zs SM hzs hS16 hz16) ?k1 ?k2 ?k3 ?k4 ?k6 ?k5 ?kK ?kd ?ku ?_
  (case k1 => k_asm)
  (case k2 => k_asm)
  (case k3 => k_asm)
  (case k4 => k_asm)
  (case k6 => (rw [← hz16]; k_mem))
  (case k5 => k_asm)
  (case kK => first | exact rfl | assumption)
  (case kd => first | ktr_room | decide)
  (case ku => first | ktr_units | decide)
  intro bU usU neU h9 tk9 F9 N9 o9 S9
  rw [hSu.out] at S9
  clear hSu
  obtain ⟨UV, hUV, S9⟩ : ∃ UV, PySem.Flt.Hid (UV = cntG M0 M1 M2 16) ∧ IntsAre usU UV := ⟨_, PySem.Flt.Hid.mk rfl, S9⟩
  (try simp only [LCg.Off1, and_true] at o9)
  (try dsimp only)
  (try k_fold)
  k_steps
  refine Stop.inn ?_
  refine LCg.CompSrc.range (n := 16) (by rfl) (by k_asm) (by k_asm) (by assumption) (by decide) (by rfl) (by decide) ?_
  intro gg9
  refine map_rest (fun i ys => IntsAre ys (cntG M0 M1 M2 i)) .nil ?_ ?_
  · intro i v I' oI' C' oC' D' m' ys' h' tk' E' hi hv hR hC' hx' F' N' off' ne'
    obtain ⟨tv, rfl⟩ := hv
    (try dsimp only)
    k_steps
    all_goals (first
      | exact ⟨_, _, _, rfl, by k_asm, by k_asm, off', trivial, rfl, cntG_snoc hR⟩
      | exact ⟨_, _, _, rfl, by k_asm, by k_asm, off', trivial, rfl, cntG_snoc' (by simp) hR⟩)
  intro cs hcs
  rw [← hUV.out] at hcs
  clear hUV
  (try dsimp only)
  k_steps
  refine Stop.inn ?_
  refine ke_eq_ints (News.isList (by k_asm) (by k_mem)) (News.isList (by k_asm) (by k_mem)) S9 hcs (by ke_room) ?_
  rw [decide_eq_true rfl]
  (try dsimp only)
  k_steps
end Mine
open PySem PySem.W PyProof.Rows
theorem PySem.Challenge.cw_rw0102_01_holds : PySem.Challenge.rw_rw0102_01.Holds := by
  exact Mine.law_t
