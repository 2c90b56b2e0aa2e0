import PyProof.Rows.All
import Wide.All
import OpenK.AllK
import Wide.FinOn
import PySem.Challenge.RW_wu0100_01
set_option Elab.async false
set_option linter.all false
set_option rowWalk.seconds 0
namespace Mine
section
open PySem PySem.W PyProof.Rows
set_option maxRecDepth 100000
set_option maxHeartbeats 8000000
section
local macro_rules | `(tactic| o_law) => `(tactic| k_extra "o_law")
theorem rows_law : True := by
  k_with "o_law" => (refine holds_law (by kernel_rfl) fun said => ?_)
  trivial
local macro_rules | `(tactic| o_head $H) => `(tactic| (have zz := $H; assumption))
theorem fr (h : PySem.Challenge.rw_wu0100_01.row.Holds) : PySem.Challenge.rw_wu0100_01.row.Holds := by k_head
end
/-- the text without the lines that set the module's name -/
noncomputable def viewA : Program := { PySem.Challenge.pw_wu0100_01 with main := { PySem.Challenge.pw_wu0100_01.main with body := PySem.Challenge.pw_wu0100_01.main.body.take 1 ++ (PySem.Challenge.pw_wu0100_01.main.body.drop 2).take 4 ++ (PySem.Challenge.pw_wu0100_01.main.body.drop 7).take 3 ++ (PySem.Challenge.pw_wu0100_01.main.body.drop 11).take 1 ++ (PySem.Challenge.pw_wu0100_01.main.body.drop 13).take 2 ++ PySem.Challenge.pw_wu0100_01.main.body.drop 16 } }
noncomputable def looseA : List Str := [PySem.Str.ofString "_Accumulator", PySem.Str.ofString "Whitespace"]
noncomputable def hookA : Hook := kmHook fr.heap_1 [2, 3, 15, 17, 18, 20, 21, 29, 31, 32, 34, 35, 36, 38, 39, 41, 42, 43, 45, 46, 48, 49, 50, 52, 53, 55, 56, 57, 59, 60, 62, 63, 64, 66, 67, 69, 70, 71, 73, 74, 76, 77, 78, 80, 81, 83, 84, 85, 87, 88, 90, 91, 92, 93, 94, 95, 96, 99, 102, 107, 108, 109, 111, 112, 114, 115, 116, 118, 119, 121, 122, 123, 124, 126, 127, 129, 130, 131, 132, 134, 135, 137, 138, 139, 141, 142, 144, 145, 146, 148, 149, 151, 152, 153, 154, 156, 157, 159, 160, 161, 163, 164, 166, 167, 168, 169, 171, 172, 174, 175, 176, 177, 178, 179, 180, 183, 190, 191, 192, 193, 196, 203, 204, 205, 208, 210, 211, 213, 214, 225, 227, 228, 230, 231, 232, 234, 235, 237, 238, 239, 241, 242, 244, 245, 246, 248, 249, 251, 252, 253, 255, 256, 258, 259, 260, 262, 263, 265, 266, 267, 269, 270, 272, 273, 274, 275, 276, 277, 278, 281, 283, 284, 286, 287, 288, 290, 291, 293, 294, 295, 297, 298, 300, 301, 302, 304, 305, 307, 308, 309, 312, 313, 314, 316, 317, 319, 320, 321, 324, 325, 326, 329, 330, 331, 334, 335] (fun _ => by kernel_rfl) [140, 147]
/-- the top's run over a heap that is kept as a tree -/
noncomputable def runT (tb : String → Option Builtin) (p : Program) (w : World) (n₀ : Nat) (ann : Option Value) : Nat → SharedT → Thread → Option SharedT
  | 0, _, _ => none
  | n + 1, s, t => match through t with
    | true => some s
    | false => match stepOk n₀ ann t with
      | false => none
      | true => match stepT (denote tb) p w s t with
        | some (s', t') => runT tb p w n₀ ann n s' t'
        | none => none
theorem runT_spec {tb : String → Option Builtin} {p : Program} {w : World} {n₀ : Nat} {ann : Option Value} : ∀ (n : Nat) {s r : SharedT} {t : Thread}, runT tb p w n₀ ann n s t = some r → topRun tb p w n₀ ann n s.abs t = some r.abs
  | 0, _, _, _, h => by cases h
  | n + 1, s, r, t, h => by
    unfold runT at h
    unfold topRun
    cases h1 : through t with
    | true => rw [h1] at h; cases h; rfl
    | false =>
      rw [h1] at h
      cases h2 : stepOk n₀ ann t with
      | false => rw [h2] at h; cases h
      | true =>
        rw [h2] at h
        cases h3 : stepT (denote tb) p w s t with
        | none => rw [h3] at h; cases h
        | some x =>
          obtain ⟨s', t'⟩ := x
          rw [h3] at h
          rw [stepT_spec h3]
          exact runT_spec n h
theorem left_of_tree {p q : Program} {loose : List Str} {Xt : Shared → Bool} {α : Type} {Yf : Shared → α} {Ya : World → α} {N : Nat} {g0 : Bool} {T₀ : Params → BT} {n₀ : Nat} {life : Life} {gs₀ : Array GenState} {d₀ : Drawn} {k₀ : Nat} {ann : Option Value} (row : String)
    (open_ : ∀ w : World, (fencedOpening treeTable p w N).map (fun s => (s.heap, s.gens, s.drawn, s.toks)) = some (absHeap (T₀ w.params) n₀ life, gs₀, d₀, k₀))
    (size : ∀ w : World, ((absHeap (T₀ w.params) n₀ life).isNs mainGlobals && gs₀.size == 0, (absHeap (T₀ w.params) n₀ life).objs.size, (absHeap (T₀ w.params) n₀ life).nsMap mainGlobals "__annotations__") = (true, n₀, ann))
    (run : ∀ (b : Bool) (w : World) (os : OsState), (runT treeTable p (w.withFollow row b) n₀ ann N ⟨T₀ w.params, n₀, life, gs₀, d₀, k₀, os⟩ (topStub p)).map (fun s => ((staticsOk (importedModules p.main.body) (absHeap (T₀ w.params) n₀ life) s.abs.heap && namesBound p s.abs.heap && gensDone s.abs && laidKept (absHeap (T₀ w.params) n₀ life) s.abs.heap),
      openSeen q loose (importedModules p.main.body) Xt g0 s.abs, Yf s.abs)) = some (true, openGood q loose, Ya (w.withFollow row b))) : LeftO p q loose Xt Yf Ya N g0 := fun w => by
  obtain ⟨⟨h, gs, d, k, os⟩, e, e'⟩ := Option.map_eq_some_iff.mp (open_ w)
  obtain ⟨rfl, rfl, rfl, rfl⟩ : h = absHeap (T₀ w.params) n₀ life ∧ gs = gs₀ ∧ d = d₀ ∧ k = k₀ := by simpa using e'
  obtain ⟨z1, z2, z3⟩ : _ ∧ _ ∧ _ := by simpa only [Prod.mk.injEq] using size w
  have r := run (w.params.followText row) w os
  rw [World.withFollow_self w row] at r
  obtain ⟨s, hs, l⟩ := Option.map_eq_some_iff.mp r
  obtain ⟨l1, l2, l3⟩ : _ ∧ _ ∧ _ := by simpa only [Prod.mk.injEq] using l
  have r2 := runT_spec N hs
  have t : topFrom treeTable p w N ⟨absHeap (T₀ w.params) n₀ life, gs, d, k, os⟩ = some s.abs := by
    unfold topFrom
    try dsimp only
    rw [z1, z2, z3]
    have r3 : topRun treeTable p w n₀ ann N ⟨absHeap (T₀ w.params) n₀ life, gs, d, k, os⟩ (topStub p) = some s.abs := r2
    rw [r3]
    show (match staticsOk (importedModules p.main.body) (absHeap (T₀ w.params) n₀ life) s.abs.heap && namesBound p s.abs.heap && gensDone s.abs && laidKept (absHeap (T₀ w.params) n₀ life) s.abs.heap with | true => _ | false => _) = _
    rw [l1]
  unfold openEnds
  rw [e]
  show (topFrom treeTable p w N _).map _ = _
  rw [t]
  exact congrArg some (Prod.ext l2 l3)
noncomputable abbrev progA : Program := PySem.Challenge.rw_wu0100_01.row.prog
noncomputable abbrev xtA : Shared → Bool := fun s => xlAt viewA [] s && recOk (RowW.records PySem.Challenge.rw_wu0100_01.row.toRowW) s
noncomputable def treeA (P : Params) : BT := .node (boot_o_0 P) (.node (boot_o_1 P) (.node (boot_o_3 P) (.node (boot_o_7 P) .nil .nil) .nil) (.node (boot_o_5 P) (.node (boot_o_9 P) .nil .nil) .nil)) (.node (boot_o_2 P) (.node (boot_o_4 P) (.node (boot_o_8 P) .nil .nil) .nil) (.node (boot_o_6 P) (.node (boot_o_10 P) .nil .nil) .nil))
theorem treeA_abs (P : Params) : absHeap (treeA P) 11 {} = boot_heap P := by kernel_rfl
theorem openA (w : World) : (fencedOpening treeTable progA w 4708).map (fun s => (s.heap, s.gens, s.drawn, s.toks)) = some (absHeap (treeA w.params) 11 {}, Array.mk [], boot_drawn, boot_toks) := by
  rw [treeA_abs]
  exact boot_open (by kernel_rfl) (by decide) (fun s => by kernel_rfl) w
theorem sizeA (w : World) : ((absHeap (treeA w.params) 11 {}).isNs mainGlobals && (Array.mk [] : Array GenState).size == 0, (absHeap (treeA w.params) 11 {}).objs.size, (absHeap (treeA w.params) 11 {}).nsMap mainGlobals "__annotations__") = (true, 11, some (.ref 6)) := by kernel_rfl
/-- what is asked of the state behind the top -/
noncomputable def seenA (w : World) (s : SharedT) := ((staticsOk (importedModules progA.main.body) (absHeap (treeA w.params) 11 {}) s.abs.heap && namesBound progA s.abs.heap && gensDone s.abs && laidKept (absHeap (treeA w.params) 11 {}) s.abs.heap), openSeen viewA looseA (importedModules progA.main.body) xtA true s.abs, Hook.obs hookA s.abs)
theorem runF (w : World) (os : OsState) : (runT treeTable progA (w.withFollow "special-get-raises" false) 11 (some (.ref 6)) 4708 ⟨treeA w.params, 11, {}, Array.mk [], boot_drawn, boot_toks, os⟩ (topStub progA)).map (seenA w) = some (true, openGood viewA looseA, Hook.val hookA (w.withFollow "special-get-raises" false)) := by
  rw [PySem.W.Fast.te14364793385576792824]
  kernel_rfl
theorem runY (w : World) (os : OsState) : (runT treeTable progA (w.withFollow "special-get-raises" true) 11 (some (.ref 6)) 4708 ⟨treeA w.params, 11, {}, Array.mk [], boot_drawn, boot_toks, os⟩ (topStub progA)).map (seenA w) = some (true, openGood viewA looseA, Hook.val hookA (w.withFollow "special-get-raises" true)) := by
  rw [PySem.W.Fast.te14364793385576792824]
  kernel_rfl
theorem leftA : LeftO progA viewA looseA xtA (Hook.obs hookA) (Hook.val hookA) 4708 :=
  left_of_tree "special-get-raises" openA sizeA fun b w os => by
    cases b
    · exact runF w os
    · exact runY w os
section
local macro_rules | `(tactic| o_law) => `(tactic| k_extra "o_law")
local macro_rules | `(tactic| k_head) => `(tactic| k_extra "k_head")
theorem rows_head : True := by
  k_with "k_head" => (refine holds_open (q := viewA) (loose := looseA) (Xt := xtA) (XP := XL viewA []) (Yf := Hook.obs hookA) (Ya := Hook.val hookA) (YP := Hook.says hookA) (N := 4708) leftA (Hook.of hookA) (Hook.keeps hookA) (fun s e => xl_of s (Bool.and_eq_true_iff.mp e).1) XL.keeps (by rfl) (by rfl) (by rfl) (fun s e => recFacts_of (Bool.and_eq_true_iff.mp e).2) (by rfl) (by first | assumption | decide +kernel) (by decide +kernel) ⟨rfl, rfl, rfl, rfl, rfl, by decide +kernel⟩ ?hw ?hc)
  trivial
open_top hd for PySem.Challenge.rw_wu0100_01
end
end
local macro_rules | `(tactic| walk_at $s:str) => `(tactic| k_extra $s)
local macro_rules | `(tactic| k_mem) => `(tactic| k_extra "k_mem")
local macro_rules | `(tactic| k_ne) => `(tactic| k_extra "k_ne")
local macro_rules | `(tactic| k_updF) => `(tactic| k_extra "k_updF")
local macro_rules | `(tactic| k_inst) => `(tactic| k_extra "k_inst")
section
open PySem PySem.Spec PySem.Calls PySem.W PyProof.Rows
set_option maxHeartbeats 0
/-- a stop of the walk -/
noncomputable def HoldK (P : Prop) : Prop := P
theorem and4 {a b c d C : Prop} (h : a ∧ b ∧ c ∧ d) (k : a → b → c → d → C) : C := k h.1 h.2.1 h.2.2.1 h.2.2.2
theorem and5 {a b c d e C : Prop} (h : a ∧ b ∧ c ∧ d ∧ e) (k : a → b → c → d → e → C) : C := k h.1 h.2.1 h.2.2.1 h.2.2.2.1 h.2.2.2.2
theorem mem_mid {α : Type} {pre post : List α} {e : α} : ∀ p ∈ e :: (pre ++ post), p ∈ pre ++ e :: post := fun p hp => by
  rcases List.mem_cons.mp hp with rfl | hp
  · exact List.mem_append_right _ (.head _)
  · rcases List.mem_append.mp hp with hp | hp
    · exact List.mem_append_left _ hp
    · exact List.mem_append_right _ (.tail _ hp)
theorem mem_drop {α : Type} {pre post : List α} {e : α} : ∀ p ∈ pre ++ post, p ∈ pre ++ e :: post := fun p hp => mem_mid p (.tail _ hp)
theorem mem_mid' {α : Type} {pre post : List α} {e : α} : ∀ p ∈ pre ++ e :: post, p ∈ e :: (pre ++ post) := fun p hp => by
  rcases List.mem_append.mp hp with hp | hp
  · exact .tail _ (List.mem_append_left _ hp)
  · rcases List.mem_cons.mp hp with rfl | hp
    · exact .head _
    · exact .tail _ (List.mem_append_right _ hp)
theorem mem_under {α : Type} {a : α} {l l' : List α} (h : ∀ p ∈ l, p ∈ l') : ∀ p ∈ a :: l, p ∈ a :: l' := fun p hp => by
  rcases List.mem_cons.mp hp with rfl | hp
  · exact .head _
  · exact .tail _ (h p hp)
theorem HoldK.of {P : Prop} (h : HoldK P) : P := h
theorem ne_lt {d c : Nat} {l : List (Addr × Obj)} (h : ∀ p ∈ l, @LT.lt Nat _ p.1 d) (hc : d ≤ c) : ∀ p ∈ l, p.1 ≠ c := fun p hp e => Nat.lt_irrefl c (Nat.lt_of_lt_of_le (e ▸ h p hp) hc)
theorem allLt_all {d : Nat} (l : List (Addr × Obj)) : AllLt d l → ∀ p ∈ l, @LT.lt Nat _ p.1 d := by
  induction l with
  | nil => intro _ p hp; cases hp
  | cons q l ih =>
    intro h p hp
    cases hp with
    | head => exact h.1
    | tail _ hp => exact ih h.2 p hp
theorem ne_allLt {d c : Nat} {l : List (Addr × Obj)} (h : AllLt d l) (hc : d ≤ c) : ∀ p ∈ l, p.1 ≠ c := ne_lt (allLt_all l h) hc
theorem off_sub {d : Nat} {l l' : List (Addr × Obj)} (h : ∀ p ∈ l, @LT.lt Nat _ p.1 d) (hs : ∀ p ∈ l', p ∈ l) : OwnOff l' [d + 1] := fun p hp b hb => by
  cases List.mem_singleton.mp hb
  exact fun e => Nat.lt_irrefl (d + 1) (Nat.lt_of_lt_of_le (e ▸ h p (hs p hp)) (Nat.le_succ d))
theorem off1 {d : Nat} {e1} {l : List (Addr × Obj)} (h : ∀ p ∈ e1 :: l, @LT.lt Nat _ p.1 d) : OwnOff l [d + 1] := off_sub h fun _ hp => .tail _ hp
theorem off0 {d : Nat} {l : List (Addr × Obj)} (h : ∀ p ∈ l, @LT.lt Nat _ p.1 d) : OwnOff l [d + 1] := off_sub h fun _ hp => hp
theorem off2 {d : Nat} {e1 e2} {l : List (Addr × Obj)} (h : ∀ p ∈ e1 :: e2 :: l, @LT.lt Nat _ p.1 d) : OwnOff l [d + 1] := off_sub h fun _ hp => .tail _ (.tail _ hp)
theorem ne_mem1 {d c : Nat} {l : List (Addr × Obj)} {o o' : Obj} (h : AllLt d l) (hm : (c, o) ∈ l) : ((d, o') : Addr × Obj).1 ≠ c := by
  have z : @LT.lt Nat _ c d := allLt_all l h _ hm
  exact Nat.ne_of_gt z
theorem ne_mem2 {d c : Nat} {l : List (Addr × Obj)} {o o' : Obj} (h : ∀ p ∈ l, @LT.lt Nat _ p.1 d) (hm : (c, o) ∈ l) : ((d, o') : Addr × Obj).1 ≠ c := by
  have z : @LT.lt Nat _ c d := h _ hm
  exact Nat.ne_of_gt z
theorem updF_mem {d : Addr} {o o' : Obj} {l : List (Addr × Obj)} {g : Obj → List (Addr × Obj)} (U : UpdF d o l g) : (d, o') ∈ g o' := by
  obtain ⟨pre, post, -, hg, -, -⟩ := U.split
  rw [hg]; simp
theorem updF_old {d : Addr} {o : Obj} {l : List (Addr × Obj)} {g : Obj → List (Addr × Obj)} (U : UpdF d o l g) : (d, o) ∈ l := by
  obtain ⟨pre, post, e, -, -, -⟩ := U.split
  rw [e]; simp
theorem updF_upd {d : Addr} {o o' : Obj} {l : List (Addr × Obj)} {g : Obj → List (Addr × Obj)} (U : UpdF d o l g) : Upd d o o' l (g o') := by
  induction U with
  | head h => exact .head h
  | tail h _ ih => exact .tail h ih
theorem updF_keep {d : Addr} {o o' : Obj} {l : List (Addr × Obj)} {g : Obj → List (Addr × Obj)} (U : UpdF d o l g) {p : Addr × Obj} (hp : p ∈ l) (hn : p.1 ≠ d) : p ∈ g o' := by
  obtain ⟨pre, post, rfl, hg, -, -⟩ := U.split
  rw [hg]
  rcases List.mem_append.mp hp with h | h
  · exact List.mem_append_left _ h
  · rcases List.mem_cons.mp h with rfl | h
    · exact absurd rfl hn
    · exact List.mem_append_right _ (.tail _ h)
end
section
open PySem PySem.Spec PySem.Calls PySem.W PyProof.Rows
set_option maxRecDepth 100000
set_option maxHeartbeats 0
noncomputable abbrev PG : Program := PySem.Challenge.rw_wu0100_01.row.prog
noncomputable abbrev accObj (cd : Addr) (its : Array Value) (n : Nat) : Obj := ⟨.ref 178, some cd, .seq its n, #[]⟩


theorem kfacts : ∀ w : World, PySem.Challenge.rw_wu0100_01 = PySem.Challenge.rw_wu0100_01 ∧ subIn (fr.heap_1 w.params) (.ref 178) (.type "list") = some true ∧ noSeq (fr.heap_1 w.params) 178 = true ∧
    findIn (fr.heap_1 w.params) (.ref 178) "__getitem__" = some (some (.builtin "list.__getitem__")) ∧ findIn (fr.heap_1 w.params) (.ref 178) "__setitem__" = some (some (.builtin "list.__setitem__")) ∧
    findIn (fr.heap_1 w.params) (.ref 178) "__iter__" = some (some (.builtin "list.__iter__")) ∧ findIn (fr.heap_1 w.params) (.ref 178) "append" = some (some (.builtin "list.append")) ∧
    findIn (fr.heap_1 w.params) (.ref 178) "__getattribute__" = some (some (.builtin "list.__getattribute__")) ∧ typeIn (fr.heap_1 w.params) (.builtin "list.append") = some (.type "method_descriptor") ∧ findIn (fr.heap_1 w.params) (.ref 178) "__getattr__" = some none := by
  k_fill
  intro w
  refine ⟨rfl, ?_, ?_, ?_, ?_, ?_, ?_, ?_, ?_, ?_⟩ <;> k_is
theorem acc_sub (w : World) : subIn (fr.heap_1 w.params) (.ref 178) (.type "list") = some true := (kfacts w).2.1
theorem acc_noseq (w : World) : noSeq (fr.heap_1 w.params) 178 = true := (kfacts w).2.2.1
theorem acc_fget (w : World) : findIn (fr.heap_1 w.params) (.ref 178) "__getitem__" = some (some (.builtin "list.__getitem__")) := (kfacts w).2.2.2.1
theorem acc_fset (w : World) : findIn (fr.heap_1 w.params) (.ref 178) "__setitem__" = some (some (.builtin "list.__setitem__")) := (kfacts w).2.2.2.2.1
theorem acc_fiter (w : World) : findIn (fr.heap_1 w.params) (.ref 178) "__iter__" = some (some (.builtin "list.__iter__")) := (kfacts w).2.2.2.2.2.1
theorem acc_fapp (w : World) : findIn (fr.heap_1 w.params) (.ref 178) "append" = some (some (.builtin "list.append")) := (kfacts w).2.2.2.2.2.2.1
theorem acc_plain (w : World) : findIn (fr.heap_1 w.params) (.ref 178) "__getattribute__" = some (some (.builtin "list.__getattribute__")) := (kfacts w).2.2.2.2.2.2.2.1
theorem acc_tapp (w : World) : typeIn (fr.heap_1 w.params) (.builtin "list.append") = some (.type "method_descriptor") := (kfacts w).2.2.2.2.2.2.2.2.1
theorem acc_noga (w : World) : findIn (fr.heap_1 w.params) (.ref 178) "__getattr__" = some none := (kfacts w).2.2.2.2.2.2.2.2.2
theorem erased_le (xs : Array Value) (k : Nat) : (xs.eraseIdxIfInBounds k).size ≤ xs.size := by
  unfold Array.eraseIdxIfInBounds
  split
  · simp
  · exact Nat.le_refl _
section
variable {w : World} {A : Around} {E : Value → Shared → Prop} {s : Shared} {x cd : Addr} {its : Array Value} {n : Nat} {sl : Array (Option Value)}

theorem acc_type {M : Model} {h : Heap} (hx : h.get? x = some (accObj cd its n)) : Looks M h (typeOf (.ref x)) (.ref 178) := (Looks.ld hx).andThen .now
theorem acc_inst {M : Model} {h : Heap} (X : (fr.heap_1 w.params).In h) (hx : h.get? x = some (accObj cd its n)) : Looks M h (isInstance (.ref x) (.type "list")) true :=
  (acc_type hx).andThen (looks_subIn X (acc_sub w))

theorem check_bi {M : Model} {i owner n : String} {self : Value} {rest : List Value} {Q : Unit → Shared → Prop}
    (hk : builtinKind i = some .slot ∨ builtinKind i = some .method) (hs : splitId i = some (owner, n)) (hi : Looks M s.heap (isInstance self (.type owner)) true) (ha : argsOk i ⟨self :: rest, []⟩) (q : Q () s) :
    wpAny M A (checkBuiltinCall i ⟨self :: rest, []⟩) Q E s := by
  rcases hk with hk | hk
  · exact check_slot hk hs hi ha q
  · simp only [checkBuiltinCall, hk, hs]
    refine wpAny_bind (hi.here ?_)
    simp only [Bool.not_true, Bool.false_eq_true, if_false]
    cases hsig : Manifest.signature? i with
    | none => exact wpAny_pure q
    | some sig =>
      simp only [argsOk, hsig] at ha
      have h2 : Bind.checkArgs i sig ⟨self :: rest, []⟩ = pure () := ha
      show wpAny M A (Bind.checkArgs i sig ⟨self :: rest, []⟩) Q E s
      rw [h2]; exact wpAny_pure q

theorem call_bi {id owner nm : String} {b : Builtin} {self : Value} {rest : List Value} {Q : Value → Shared → Prop}
    (hk : builtinKind id = some .slot ∨ builtinKind id = some .method) (hs : splitId id = some (owner, nm)) (hq : plainId id = true) (hb : entryFor table id = some b) (ha : argsOk id ⟨self :: rest, []⟩)
    (hi : Looks (model PG w) s.heap (isInstance self (.type owner)) true)
    (hc : wpAny (model PG w) A.in1 (b ⟨self :: rest, []⟩) (fun fin s' => ∃ v, fin = .done (.ret v) ∧ Q v s') E s) :
    wpAny (model PG w) A (call (.builtin id) (self :: rest)) Q E s := by
  refine wpAny_call (codeAny_call_builtin hq hb (check_bi hk hs hi ha (wpAny_mono hc (fun fin s' h' => ?_) fun _ _ h' => h')))
  obtain ⟨v, rfl, hv⟩ := h'; exact hv

theorem acc_append {v : Value} {Q : Value → Shared → Prop} (X : (fr.heap_1 w.params).In s.heap) (hx : s.heap.get? x = some (accObj cd its n)) (hz : its.size ≤ 1000)
    (h : Q .none { s with heap := s.heap.update x (Obj.mapSeq fun y => y.push v) }) : wpAny (model PG w) A (call (.builtin "list.append") [.ref x, v]) Q E s := by
  refine call_bi (b := Builtin.«list.append») (.inr (by decide +kernel)) (by decide +kernel : splitId "list.append" = some ("list", "append")) (by decide +kernel) PySem.entry_list_append (by unfold argsOk; kernel_rfl) (acc_inst X hx) ?_
  obtain ⟨hp, g, d, tk, os⟩ := s
  have hsz : its.size ≤ sizeLine := by rw [sizeLine_eq]; (first | lia | omega)
  have hz' : (its.push v).size ≤ sizeLine + 1 := by rw [Array.size_push]; (first | lia | omega)
  wp_walk using (wpAny_updateSeq hx rfl (hz := hsz) (_hz' := hz'))
  exact ⟨_, rfl, h⟩

theorem acc_len {Q : Value → Shared → Prop} (X : (fr.heap_1 w.params).In s.heap) (hx : s.heap.get? x = some (accObj cd its n))
    (h : Q (.int (its.size : Int) s.toks) { s with toks := s.toks + 1 }) : wpAny (model PG w) A (call (.builtin "list.__len__") [.ref x]) Q E s := by
  refine call_bi (b := Builtin.«list.__len__») (.inl (by decide +kernel)) (by decide +kernel : splitId "list.__len__" = some ("list", "__len__")) (by decide +kernel) PySem.F.entry_list_len (PySem.F.args_list_len_1 _) (acc_inst X hx) ?_
  obtain ⟨hp, g, d, tk, os⟩ := s
  wp_walk
  exact ⟨_, rfl, h⟩

theorem acc_pop {Q : Value → Shared → Prop} {y : Value} (X : (fr.heap_1 w.params).In s.heap) (hx : s.heap.get? x = some (accObj cd its n)) (hz : its.size ≤ 1000) (hy : its[its.size - 1]? = some y)
    (h : Q y { s with heap := s.heap.update x (Obj.mapSeq fun xs => xs.eraseIdxIfInBounds (its.size - 1)) }) : wpAny (model PG w) A (call (.builtin "list.pop") [.ref x]) Q E s := by
  refine call_bi (b := Builtin.«list.pop») (.inr (by decide +kernel)) (by decide +kernel : splitId "list.pop" = some ("list", "pop")) (by decide +kernel) PySem.F.entry_list_pop (PySem.F.args_list_pop_1 _) (acc_inst X hx) ?_
  obtain ⟨hp, g, d, tk, os⟩ := s
  have hsz : its.size ≤ sizeLine := by rw [sizeLine_eq]; (first | lia | omega)
  have hpos : 0 < its.size := by
    rcases Nat.eq_zero_or_pos its.size with h0 | h0
    · simp [h0] at hy
    · exact h0
  have hne : ¬ its.isEmpty = true := by
    intro he; have : its.size = 0 := by simpa using he
    (first | lia | omega)
  have hk : seqIndex? (-1) its.size = some (its.size - 1) := by
    rw [seqIndex_neg (by (first | lia | omega)) (by (first | lia | omega))]; congr 1; (first | lia | omega)
  wp_walk using wpAny_loadPart' hx
  simp only [hk, hy, Option.bind_some, Option.map_some]
  have hz' : (its.eraseIdxIfInBounds (its.size - 1)).size ≤ sizeLine + 1 := by
    have := erased_le its (its.size - 1)
    (first | lia | omega)
  wp_walk using (wpAny_updateSeq hx rfl (hz := hsz) (_hz' := hz')), wpAny_loadPart' hx
  exact ⟨_, rfl, h⟩
theorem acc_init {Q : Value → Shared → Prop} (X : (fr.heap_1 w.params).In s.heap) (hx : s.heap.get? x = some (accObj cd #[] n))
    (h : Q .none { s with heap := s.heap.update x (Obj.mapSeq fun _ => #[]) }) : wpAny (model PG w) A (call (.builtin "list.__init__") [.ref x]) Q E s := by
  refine call_bi (b := Builtin.«list.__init__») (.inl (by decide +kernel)) (by decide +kernel : splitId "list.__init__" = some ("list", "__init__")) (by decide +kernel) PySem.F.entry_list_init (PySem.F.args_list_init_1 _) (acc_inst X hx) ?_
  obtain ⟨hp, g, d, tk, os⟩ := s
  wp_walk using (wpAny_updateSeq hx rfl (hz := by decide) (_hz' := by decide))
  exact ⟨_, rfl, h⟩
theorem acc_iter {Q : Value → Shared → Prop} (X : (fr.heap_1 w.params).In s.heap) (hx : s.heap.get? x = some (accObj cd its n))
    (h : Q (.ref s.heap.objs.size) { s with heap := s.heap.push { cls := Value.type "list_iterator", data := Data.fields #[Value.ref x, rawInt 0] } }) : wpAny (model PG w) A (call (.builtin "list.__iter__") [.ref x]) Q E s := by
  refine call_bi (b := Builtin.«list.__iter__») (.inl (by decide +kernel)) (by decide +kernel : splitId "list.__iter__" = some ("list", "__iter__")) (by decide +kernel) PySem.F.entry_list_iter (PySem.F.args_list_iter_1 _) (acc_inst X hx) ?_
  obtain ⟨hp, g, d, tk, os⟩ := s
  wp_walk
  exact ⟨_, rfl, h⟩
theorem acc_special {name : Str} {id : String} {args : List Value} {Q : Option Value → Shared → Prop} (X : (fr.heap_1 w.params).In s.heap) (hx : s.heap.get? x = some (accObj cd its n))
    (hs : findIn (fr.heap_1 w.params) (.ref 178) name = some (some (.builtin id))) (hb : ∀ self, bindSpecial (.builtin id) self = pure (.builtin id, [self]))
    (h : wpAny (model PG w) A (call (.builtin id) (.ref x :: args)) (fun v => Q (some v)) E s) : wpAny (model PG w) A (callSpecial? (.ref x) name args) Q E s := by
  unfold callSpecial? specialOf
  refine wpAny_bind (wpAny_bind ((acc_type hx).here ((looks_findIn X hs).here ?_)))
  try dsimp only
  rw [hb]
  exact wpAny_holding (wpAny_bind (wpAny_pure (wpAny_bind (wpAny_mono h (fun _ _ z => wpAny_pure z) fun _ _ z => z))))
theorem acc_key {k : Value} {name : Str} {Q : Value → Shared → Prop} (X : (fr.heap_1 w.params).In s.heap) (hx : s.heap.get? x = some (accObj cd its n)) (h : Q k s) : wpAny (model PG w) A (sequenceKey (.ref x) k name) Q E s := by
  unfold sequenceKey
  refine wpAny_bind ((acc_type hx).here ?_)
  refine wpAny_bind ((anyM_none X (acc_noseq w)).here ?_)
  rw [if_pos (show (!false) = true from rfl)]
  exact wpAny_pure h
theorem acc_item {Q : Value → Shared → Prop} {k : Int} {u : Tok} {v : Value} (X : (fr.heap_1 w.params).In s.heap) (hx : s.heap.get? x = some (accObj cd its n)) (h0 : 0 ≤ k) (hv : its[k.toNat]? = some v) (hb : k < 2 ^ 63)
    (h : Q v s) : wpAny (model PG w) A (getItem (.ref x) (.int k u)) Q E s := by
  unfold getItem
  try with_reducible refine wpAny_holding ?_
  first | refine wpAny_bind (wpAny_pure ?_) | skip
  refine wpAny_bind (acc_key X hx ?_)
  refine wpAny_bind (acc_special X hx (acc_fget w) slot_list_getitem.bind ?_)
  refine call_bi (b := Builtin.«list.__getitem__») (.inr (by decide +kernel)) (by decide +kernel : splitId "list.__getitem__" = some ("list", "__getitem__")) (by decide +kernel) entry_list_getitem (args_list_getitem _ _) (acc_inst X hx) ?_
  show wpAny _ _ (Builtin.List.listSubscript? (.int k u) >>= _) _ _ s
  refine wpAny_bind (wpAny_listSubscript_int (fitsIndex_of h0 hb) ?_)
  clear hb
  obtain ⟨j, rfl⟩ := Int.eq_ofNat_of_zero_le h0
  have hx' : its[j]? = some v := hv
  show wpAny _ _ ((seqItemAt x j >>= fun r => pure (r.map (j, ·))) >>= _) _ _ s
  refine wpAny_bind (wpAny_bind (wpAny_seqItemAt hx rfl (wpAny_pure ?_)))
  rw [hx']
  first
    | exact wpAny_bind (wpAny_pure (wpAny_pure ⟨v, rfl, wpAny_pure h⟩))
    | exact wpAny_pure ⟨v, rfl, wpAny_pure h⟩
theorem acc_slice {sl : Addr} {vl vu vs : Value} {lo hi st : Option Int} {Q : Value → Shared → Prop} (X : (fr.heap_1 w.params).In s.heap) (hx : s.heap.get? x = some (accObj cd its n))
    (hs : s.heap.IsSliceOf sl vl vu vs) (pl : IsPart vl lo) (pu : IsPart vu hi) (ps : IsPart vs st) (h0 : st ≠ some 0) (hz : its.size ≤ sizeLine)
    (h : Q (.ref s.heap.objs.size) { s with heap := s.heap.push { cls := .type "list", data := .seq (slicePick its lo hi st) } }) : wpAny (model PG w) A (getItem (.ref x) (.ref sl)) Q E s := by
  obtain ⟨os, hos, hcs, hds⟩ := id hs
  have hTs : s.TypeIs (.ref sl) "slice" := ⟨os, hos, hcs⟩
  unfold getItem
  try with_reducible refine wpAny_holding ?_
  first | refine wpAny_bind (wpAny_pure ?_) | skip
  refine wpAny_bind (acc_key X hx ?_)
  refine wpAny_bind (acc_special X hx (acc_fget w) slot_list_getitem.bind ?_)
  refine call_bi (b := Builtin.«list.__getitem__») (.inr (by decide +kernel)) (by decide +kernel : splitId "list.__getitem__" = some ("list", "__getitem__")) (by decide +kernel) entry_list_getitem (args_list_getitem _ _) (acc_inst X hx) ?_
  show wpAny _ _ (Builtin.List.listSubscript? (.ref sl) >>= _) _ _ s
  refine wpAny_bind ?_
  unfold Builtin.List.listSubscript?
  refine wpAny_bind (wpAny_specialOf hTs slice_no_index ?_)
  simp only [Option.isNone_none, if_true]
  refine wpAny_pure ?_
  show wpAny _ _ (typeOf (.ref sl) >>= _) _ _ s
  refine wpAny_bind (wpAny_typeOf hTs ?_)
  rw [if_neg (by decide)]
  rw [listSliceParts_eq]
  have hstep : ¬ ((rawPart st == rawInt 0) = true) := by
    cases st with
    | none => exact Bool.false_ne_true
    | some c =>
      intro hh
      have : c = 0 := by simpa [rawPart, rawInt] using hh
      exact h0 (by rw [this])
  refine wpAny_bind (wpAny_bind (wpAny_field hos hds (x := vs) rfl (wpAny_bind (wpAny_listPart ps ?_))))
  rw [if_neg hstep]
  refine wpAny_bind (wpAny_field hos hds (x := vl) rfl (wpAny_bind (wpAny_listPart pl ?_)))
  refine wpAny_bind (wpAny_field hos hds (x := vu) rfl (wpAny_bind (wpAny_listPart pu (wpAny_pure ?_))))
  refine wpAny_bind (m := Builtin.List.listItems (.ref x)) ?_
  unfold Builtin.List.listItems
  refine wpAny_bind (wpAny_seqItems hx rfl (wpAny_pure ?_))
  refine wpAny_bind (wpAny_of_eq (sliceIndices_raw lo hi st its.size h0) ?_)
  refine wpAny_bind (wpAny_newObj_type (wpAny_pure ⟨_, rfl, wpAny_pure h⟩) (Nat.le_trans (slicePick_size_le its lo hi st) hz))

theorem accI {h : Heap} {od : Obj} (hx : h.get? x = some (accObj cd its n)) (hd : h.get? cd = some od) : InstAt h x (accObj cd its n) 178 (some od) := ⟨hx, rfl, rfl, hd⟩
theorem acc_getattr {od : Option Obj} {ox : Obj} {name : Str} {v : Value} {expr : Bool} {Q : Value → Shared → Prop} (X : (fr.heap_1 w.params).In s.heap) (I : InstAt s.heap x ox 178 od) (hx : s.heap.get? x = some (accObj cd its n))
    (hf : findObj (fr.heap_1 w.params) 178 od name = some (.value v)) (hh : handedIn v = true) (h : Q v { s with toks := s.toks + 1 }) : wpAny (model PG w) A (getAttr (.ref x) name expr) Q E s := by
  obtain ⟨hh', g, d, t, os⟩ := s
  have L0 := I.type (M := model PG w)
  have L1 := looks_findIn (M := model PG w) X (acc_plain w)
  have L2 := looks_findIn (M := model PG w) X (acc_noga w)
  have L3 := looks_find (M := model PG w) X I hf
  unfold getAttr getAttrBy
  refine wpAny_bind (wpAny_mkText (wpAny_holding (wpAny_bind (L0.at (wpAny_bind (L1.at ?_))))))
  show wpAny _ _ (getAttrByItsOwn (.ref x) (.str name t) (.ref 178) (.builtin "list.__getattribute__") true expr) _ _ _
  unfold getAttrByItsOwn
  refine wpAny_bind (m := hookBefore (.ref 178)) ?_
  show wpAny _ _ (typeLookup (.ref 178) "__getattr__") _ _ _
  refine L2.at ?_
  refine wpAny_bind (wpAny_attempt (wpAny_holding ?_))
  have e : callGetattribute (.ref x) (.str name t) (.builtin "list.__getattribute__") expr = boundAndCalled (.builtin "list.__getattribute__") (.ref x) (.str name t) := by
    unfold callGetattribute
    cases expr <;> rfl
  rw [e]
  unfold boundAndCalled
  have eb : bindSpecial (.builtin "list.__getattribute__") (.ref x) = pure (.builtin "list.__getattribute__", [.ref x]) := by kernel_rfl
  rw [eb]
  refine wpAny_bind (wpAny_pure ?_)
  refine call_bi (b := Builtin.«object.__getattribute__») (.inl (by decide +kernel)) (by decide +kernel : splitId "list.__getattribute__" = some ("list", "__getattribute__")) (by decide +kernel) F.entry_list_ga (by unfold argsOk; kernel_rfl) (acc_inst X hx) ?_
  refine wpAny_bind (wpAny_pure (wpAny_bind (wpAny_pure (wpAny_bind (L0.at (wpAny_bind (L3.at ?_)))))))
  refine wpAny_pure ⟨_, rfl, ?_⟩
  show wpAny _ _ (handedOut v) _ _ _
  rw [handedOut_of hh]; exact wpAny_pure h
theorem acc_method_bi {od : Obj} {name : Str} {id : String} {pl : Sem Bool} {Q : Value × List Value → Shared → Prop} (X : (fr.heap_1 w.params).In s.heap) (hx : s.heap.get? x = some (accObj cd its n)) (hdd : s.heap.get? cd = some od)
    (hf : findIn (fr.heap_1 w.params) (.ref 178) name = some (some (.builtin id))) (ht : typeIn (fr.heap_1 w.params) (.builtin id) = some (.type "method_descriptor")) (hs : shadowIn (some od) name = some false) (h : Q (.builtin id, [.ref x]) s) :
    wpAny (model PG w) A (getMethod (.ref x) name pl) Q E s := by
  have hcan : (Manifest.canonical "list.__getattribute__" != "object.__getattribute__") = false := by decide +kernel
  have I := accI hx hdd
  unfold getMethod specialOf
  refine wpAny_bind (wpAny_bind (I.type.here ((looks_findIn X (acc_plain w)).here ?_)))
  try dsimp only
  rw [hcan, if_neg (by decide)]
  refine wpAny_bind (wpAny_bind (I.type.here ((looks_findIn X (acc_noga w)).here ?_)))
  refine wpAny_bind (wpAny_bind (I.type.here ((looks_findIn X hf).here (wpAny_bind ((looks_typeIn X ht).here ?_)))))
  rw [if_neg (by decide +kernel)]
  refine wpAny_bind (wpAny_loadPart I.at_ ?_)
  obtain ⟨r, a, b⟩ := Option.map_eq_some_iff.mp hs
  refine wpAny_bind (wpAny_bind (wpAny_loadPart hdd ?_))
  rw [nsLook_of a]
  refine wpAny_pure ?_
  rw [b]
  exact wpAny_bind (wpAny_rule (wpAny_pure h))
theorem acc_method_fn {od : Obj} {name : Str} {f : Addr} {pl : Sem Bool} {Q : Value × List Value → Shared → Prop} (X : (fr.heap_1 w.params).In s.heap) (hx : s.heap.get? x = some (accObj cd its n)) (hdd : s.heap.get? cd = some od)
    (hf : findIn (fr.heap_1 w.params) (.ref 178) name = some (some (.ref f))) (ht : typeIn (fr.heap_1 w.params) (.ref f) = some (.type "function")) (hs : shadowIn (some od) name = some false) (h : Q (.ref f, [.ref x]) s) :
    wpAny (model PG w) A (getMethod (.ref x) name pl) Q E s := by
  have hcan : (Manifest.canonical "list.__getattribute__" != "object.__getattribute__") = false := by decide +kernel
  have I := accI hx hdd
  unfold getMethod specialOf
  refine wpAny_bind (wpAny_bind (I.type.here ((looks_findIn X (acc_plain w)).here ?_)))
  try dsimp only
  rw [hcan, if_neg (by decide)]
  refine wpAny_bind (wpAny_bind (I.type.here ((looks_findIn X (acc_noga w)).here ?_)))
  refine wpAny_bind (wpAny_bind (I.type.here ((looks_findIn X hf).here (wpAny_bind ((looks_typeIn X ht).here ?_)))))
  rw [if_neg (by decide +kernel)]
  refine wpAny_bind (wpAny_loadPart I.at_ ?_)
  obtain ⟨r, a, b⟩ := Option.map_eq_some_iff.mp hs
  refine wpAny_bind (wpAny_bind (wpAny_loadPart hdd ?_))
  rw [nsLook_of a]
  refine wpAny_pure ?_
  rw [b]
  exact wpAny_bind (wpAny_rule (wpAny_pure h))
end
end
section
open PySem PySem.Spec PySem.Calls PySem.W PyProof.Rows
set_option maxRecDepth 100000
set_option maxHeartbeats 0
theorem slot_md_get : Slot "method_descriptor" "__get__" "method_descriptor.__get__" :=
  .of (owner := "method_descriptor") (n := "__get__") (by rw [typeLookup_type, builtinLookup_eq_fast]; kernel_rfl) (by decide +kernel) (by decide +kernel) (by decide +kernel)
    (by first | exact .inl (by decide +kernel) | exact .inr (by decide +kernel)) (by rw [isSubtype_type]; kernel_rfl)
theorem slot_wd_get : Slot "wrapper_descriptor" "__get__" "wrapper_descriptor.__get__" :=
  .of (owner := "wrapper_descriptor") (n := "__get__") (by rw [typeLookup_type, builtinLookup_eq_fast]; kernel_rfl) (by decide +kernel) (by decide +kernel) (by decide +kernel)
    (by first | exact .inl (by decide +kernel) | exact .inr (by decide +kernel)) (by rw [isSubtype_type]; kernel_rfl)
theorem entry_md_get : entryFor table "method_descriptor.__get__" = some Builtin.«method_descriptor.__get__» := entryFor_of_tree (by kernel_rfl)
theorem entry_wd_get : entryFor table "wrapper_descriptor.__get__" = some Builtin.«wrapper_descriptor.__get__» := entryFor_of_tree (by kernel_rfl)
theorem args_md_get (a b c : Value) : argsOk "method_descriptor.__get__" ⟨[a, b, c], []⟩ := by unfold argsOk; kernel_rfl
theorem args_wd_get (a b c : Value) : argsOk "wrapper_descriptor.__get__" ⟨[a, b, c], []⟩ := by unfold argsOk; kernel_rfl
theorem type_pop : typeOf (.builtin "list.pop") = pure (.type "method_descriptor") := by show builtinType _ = _; rw [builtinType_eq_fast]; kernel_rfl
theorem type_linit : typeOf (.builtin "list.__init__") = pure (.type "wrapper_descriptor") := by show builtinType _ = _; rw [builtinType_eq_fast]; kernel_rfl
theorem type_llen : typeOf (.builtin "list.__len__") = pure (.type "wrapper_descriptor") := by show builtinType _ = _; rw [builtinType_eq_fast]; kernel_rfl
noncomputable abbrev bmObj (cls id : String) (x : Addr) : Obj := { cls := .type cls, data := .fields #[.builtin id, .ref x] }
section
variable {w : World} {A : Around} {E : Value → Shared → Prop} {s : Shared} {x cd : Addr} {its : Array Value} {n : Nat}

theorem acc_looks_sub {M : Model} {h : Heap} (X : (fr.heap_1 w.params).In h) : Looks M h (isSubtype (.ref 178) (.type "list")) true := looks_subIn X (acc_sub w)
theorem bind_pop {Q : Value → Shared → Prop} (X : (fr.heap_1 w.params).In s.heap) (hx : s.heap.get? x = some (accObj cd its n))
    (h : Q (.ref s.heap.objs.size) { s with heap := s.heap.push (bmObj "builtin_function_or_method" "list.pop" x) }) : wpAny (model PG w) A (call (.builtin "method_descriptor.__get__") [.builtin "list.pop", .ref x, .ref 178]) Q E s := by
  have hT : s.TypeIs (.builtin "list.pop") "method_descriptor" := type_pop
  refine wpAny_call_entry slot_md_get hT entry_md_get ?_ (args_md_get _ _ _)
  have Li := acc_looks_sub (M := model PG w) X
  obtain ⟨hp, g, d, tk, os⟩ := s
  unfold Builtin.«method_descriptor.__get__»
  have e1 : Manifest.toldItsClass.contains "list.pop" = false := by decide +kernel
  have e2 : ".".intercalate ("list.pop".cutAt '.').dropLast = "list" := by decide +kernel
  repeat (first | (with_reducible refine Looks.at Li ?_) | (simp only [e1, e2, Bool.false_eq_true, if_false]) | wp_step | dsimp only)
  exact ⟨_, rfl, h⟩
theorem bind_linit {Q : Value → Shared → Prop} (X : (fr.heap_1 w.params).In s.heap) (hx : s.heap.get? x = some (accObj cd its n))
    (h : Q (.ref s.heap.objs.size) { s with heap := s.heap.push (bmObj "method-wrapper" "list.__init__" x) }) : wpAny (model PG w) A (call (.builtin "wrapper_descriptor.__get__") [.builtin "list.__init__", .ref x, .ref 178]) Q E s := by
  have hT : s.TypeIs (.builtin "list.__init__") "wrapper_descriptor" := type_linit
  refine wpAny_call_entry slot_wd_get hT entry_wd_get ?_ (args_wd_get _ _ _)
  have Li := acc_looks_sub (M := model PG w) X
  obtain ⟨hp, g, d, tk, os⟩ := s
  unfold Builtin.«wrapper_descriptor.__get__»
  have e2 : ".".intercalate ("list.__init__".cutAt '.').dropLast = "list" := by decide +kernel
  repeat (first | (with_reducible refine Looks.at Li ?_) | (simp only [e2, Bool.false_eq_true, if_false]) | wp_step | dsimp only)
  exact ⟨_, rfl, h⟩
theorem bind_llen {Q : Value → Shared → Prop} (X : (fr.heap_1 w.params).In s.heap) (hx : s.heap.get? x = some (accObj cd its n))
    (h : Q (.ref s.heap.objs.size) { s with heap := s.heap.push (bmObj "method-wrapper" "list.__len__" x) }) : wpAny (model PG w) A (call (.builtin "wrapper_descriptor.__get__") [.builtin "list.__len__", .ref x, .ref 178]) Q E s := by
  have hT : s.TypeIs (.builtin "list.__len__") "wrapper_descriptor" := type_llen
  refine wpAny_call_entry slot_wd_get hT entry_wd_get ?_ (args_wd_get _ _ _)
  have Li := acc_looks_sub (M := model PG w) X
  obtain ⟨hp, g, d, tk, os⟩ := s
  unfold Builtin.«wrapper_descriptor.__get__»
  have e2 : ".".intercalate ("list.__len__".cutAt '.').dropLast = "list" := by decide +kernel
  repeat (first | (with_reducible refine Looks.at Li ?_) | (simp only [e2, Bool.false_eq_true, if_false]) | wp_step | dsimp only)
  exact ⟨_, rfl, h⟩

theorem sup_ga {h : Heap} {g : Array GenState} {d : Drawn} {t : Nat} {os : OsState} {so : Addr} {l₀ : List Value} {name : Str} {id cls gid : String} {tk : Tok} {Q : Fin → Shared → Prop}
    (hso : h.get? so = some { cls := .type "super", dict := none, data := .fields #[.ref 178, .ref x, .ref 178], slots := #[] }) (hno : Looks (model PG w) h (opaqueClassAbove (.ref 178)) none)
    (hC : Looks (model PG w) h (mroOf (.ref 178)) l₀) (X : (fr.heap_1 w.params).In h) (hl : (l₀.dropWhile (· != .ref 178)).drop 1 = [.type "list", .type "object"])
    (hf : alongIn (fr.heap_1 w.params) name [.type "list", .type "object"] = some (some (.builtin id))) (hty : typeOf (.builtin id) = pure (.type cls)) (hlk : typeLookup (.type cls) "__get__" = pure (some (.builtin gid))) (hxC : x ≠ 178) (hn : (name == ("__class__" : Str)) = false)
    (hb : wpAny (model PG w) A (call (.builtin gid) [.builtin id, .ref x, .ref 178]) (fun v s' => Q (.done (.ret v)) s') E ⟨h, g, d, t, os⟩) :
    wpAny (model PG w) A (Builtin.«super.__getattribute__» ⟨[.ref so, .str name tk], []⟩) Q E ⟨h, g, d, t, os⟩ := by
  have hne : (Value.ref x == Value.ref 178) = false := by simp [hxC]
  have hTf : (⟨h, g, d, t, os⟩ : Shared).TypeIs (.builtin id) cls := hty
  have hdt : ({ cls := .type "super", dict := none, data := .fields #[.ref 178, .ref x, .ref 178], slots := #[] } : Obj).data = .fields #[.ref 178, .ref x, .ref 178] := rfl
  have f0 : (#[.ref 178, .ref x, .ref 178] : Array Value)[0]? = some (.ref 178) := rfl
  have f1 : (#[.ref 178, .ref x, .ref 178] : Array Value)[1]? = some (.ref x) := rfl
  have f2 : (#[.ref 178, .ref x, .ref 178] : Array Value)[2]? = some (.ref 178) := rfl
  unfold Builtin.«super.__getattribute__»
  repeat (first
    | (with_reducible refine wpAny_field hso hdt f0 ?_) | (with_reducible refine wpAny_field hso hdt f1 ?_) | (with_reducible refine wpAny_field hso hdt f2 ?_)
    | (with_reducible refine ks_wpAny_notOpaque hno ?_)
    | (with_reducible refine Looks.at hC ?_; rw [hl])
    | (refine ks_forIn_along X (fun _ _ => rfl) rfl ?_ hf)
    | (with_reducible refine wpAny_typeOf hTf ?_)
    | (with_reducible refine ⟨_, rfl, ?_⟩)
    | (simp only [hn, hne, hlk, Bool.or_false, Bool.false_eq_true, if_false])
    | (with_reducible refine wpAny_mono hb (fun _ _ z => ?_) fun _ _ z => z)
    | wp_step
    | dsimp only)
  all_goals assumption

theorem sup_getMethod {h : Heap} {g : Array GenState} {d : Drawn} {t : Nat} {os : OsState} {so : Addr} {l₀ : List Value} {name : Str} {id cls gid : String} {pl : Sem Bool} {o : Obj} {Q : Value × List Value → Shared → Prop}
    (hso : h.get? so = some { cls := .type "super", dict := none, data := .fields #[.ref 178, .ref x, .ref 178], slots := #[] }) (hno : Looks (model PG w) h (opaqueClassAbove (.ref 178)) none)
    (hC : Looks (model PG w) h (mroOf (.ref 178)) l₀) (X : (fr.heap_1 w.params).In h) (hl : (l₀.dropWhile (· != .ref 178)).drop 1 = [.type "list", .type "object"])
    (hf : alongIn (fr.heap_1 w.params) name [.type "list", .type "object"] = some (some (.builtin id))) (hty : typeOf (.builtin id) = pure (.type cls)) (hlk : typeLookup (.type cls) "__get__" = pure (some (.builtin gid))) (hxC : x ≠ 178) (hn : (name == ("__class__" : Str)) = false)
    (hb : ∀ {A : Around} {E : Value → Shared → Prop} {Q : Value → Shared → Prop}, Q (.ref h.objs.size) ⟨h.push o, g, d, t + 1, os⟩ → wpAny (model PG w) A (call (.builtin gid) [.builtin id, .ref x, .ref 178]) Q E ⟨h, g, d, t + 1, os⟩)
    (hq : Q (.ref h.objs.size, []) ⟨h.push o, g, d, t + 1, os⟩) :
    wpAny (model PG w) A (getMethod (.ref so) name pl) Q E ⟨h, g, d, t, os⟩ := by
  have hlk' := F.ks_slot_super_ga.lookup
  have hcan := F.ks_canon_super_ga
  have hT : ∀ t', (⟨h, g, d, t', os⟩ : Shared).TypeIs (.ref so) "super" := fun _ => ⟨_, hso, rfl⟩
  unfold getMethod
  refine wpAny_bind (wpAny_specialOf (hT _) hlk' ?_)
  show wpAny _ _ (if (Manifest.canonical "super.__getattribute__" != "object.__getattribute__") = true then _ else _) _ _ _
  rw [if_pos hcan]
  unfold getAttr getAttrBy
  refine wpAny_bind (wpAny_bind (wpAny_mkText (wpAny_holding (wpAny_bind (wpAny_typeOf (hT _) (wpAny_bind (wpAny_of_eq hlk' ?_)))))))
  show wpAny _ _ (getAttrByItsOwn (.ref so) (.str name t) (.type "super") (.builtin "super.__getattribute__") true false) _ _ _
  unfold getAttrByItsOwn hookBefore callGetattribute boundAndCalled
  refine wpAny_bind (wpAny_of_eq (show (if onTheHeap (.type "super") then typeLookup (.type "super") "__getattr__" else pure none) = pure none from rfl) ?_)
  refine wpAny_bind (wpAny_attempt (wpAny_holding ?_))
  show wpAny _ _ (bindSpecial (.builtin "super.__getattribute__") (.ref so) >>= _) _ _ _
  refine wpAny_bind (wpAny_of_eq (F.ks_slot_super_ga.bind _) ?_)
  refine wpAny_mono (Q := fun v s' => v = .ref h.objs.size ∧ s' = ⟨h.push o, g, d, t + 1, os⟩) (E := fun _ _ => False)
    (wpAny_call_entry F.ks_slot_super_ga (hT _) F.ks_entry_super_ga (sup_ga hso hno hC X hl hf hty hlk hxC hn (hb ⟨_, rfl, rfl, rfl⟩)) (F.ks_gaArgs_super _ _)) (fun v s' hv => ?_) fun _ _ z => z.elim
  obtain ⟨rfl, rfl⟩ := hv
  exact wpAny_pure (wpAny_pure hq)

theorem kfacts2 : ∀ w : World, PySem.Challenge.rw_wu0100_01 = PySem.Challenge.rw_wu0100_01 ∧ nsIn (fr.heap_1 w.params) cStatics "thirdparty.any" = some none ∧ (clsIn (fr.heap_1 w.params) 178).map (·.mro) = some [.ref 178, .type "list", .type "object"] ∧
    alongIn (fr.heap_1 w.params) "pop" [.type "list", .type "object"] = some (some (.builtin "list.pop")) ∧ alongIn (fr.heap_1 w.params) "__init__" [.type "list", .type "object"] = some (some (.builtin "list.__init__")) ∧
    alongIn (fr.heap_1 w.params) "__len__" [.type "list", .type "object"] = some (some (.builtin "list.__len__")) := by
  k_fill
  intro w
  refine ⟨rfl, ?_, ?_, ?_, ?_, ?_⟩
  · k_is
  · kernel_rfl
  · kernel_rfl
  · kernel_rfl
  · kernel_rfl
theorem acc_mro {M : Model} {h : Heap} (X : (fr.heap_1 w.params).In h) : Looks M h (mroOf (.ref 178)) [.ref 178, .type "list", .type "object"] := by
  obtain ⟨cd, hc, hm⟩ := Option.map_eq_some_iff.mp (kfacts2 w).2.2.1
  exact hm ▸ (looks_clsIn X hc).andThen .now
theorem acc_drop : (([.ref 178, .type "list", .type "object"] : List Value).dropWhile (· != .ref 178)).drop 1 = [.type "list", .type "object"] := by decide +kernel
theorem acc_ne {h : Heap} (X : (fr.heap_1 w.params).In h) (hx : h.get? x = some (accObj cd its n)) : x ≠ 178 := by
  rintro rfl
  obtain ⟨cd', hc, _⟩ := Option.map_eq_some_iff.mp (kfacts2 w).2.2.1
  unfold clsIn at hc
  split at hc
  · rename_i c d cd' sl ho
    have e := X _ _ ho
    rw [hx] at e
    cases e
  · cases hc

variable {h₀ : Heap} {L so : Addr} {m : Str → Option Value} {news news' : List (Addr × Obj)} {pl : Sem Bool} {env : Env} {pos : Pos}
theorem sup_pop {Q : Value × List Value → Shared → Prop} (F : Fr h₀ L s.heap m) (X₀ : (fr.heap_1 w.params).In h₀) (N : News h₀ L s.heap news) (hso : (so, ks_superObj 178 x 178) ∈ news) (hx : (x, accObj cd its n) ∈ news)
    (h : ∀ q h', Fr h₀ L h' m → News h₀ L h' ((q, bmObj "builtin_function_or_method" "list.pop" x) :: news) → (∀ p ∈ news, p.1 < q) → Q (.ref q, []) { s with heap := h', toks := s.toks + 1 }) : wpAny (model PG w) A (getMethod (.ref so) "pop" pl) Q E s := by
  have X := X₀.keeps F.keep
  obtain ⟨hh, g, d, t, os⟩ := s
  refine sup_getMethod (o := bmObj "builtin_function_or_method" "list.pop" x) (N _ hso).1 (looks_opaque X (kfacts2 w).2.1) (acc_mro X) X acc_drop (kfacts2 w).2.2.2.1 type_pop slot_md_get.lookup (acc_ne X (N _ hx).1) (by decide) (fun q => bind_pop X (N _ hx).1 q) ?_
  exact h _ _ (F.push _) (N.push F _) (fun p hp => Heap.lt_size (N p hp).1)
theorem sup_init {Q : Value × List Value → Shared → Prop} (F : Fr h₀ L s.heap m) (X₀ : (fr.heap_1 w.params).In h₀) (N : News h₀ L s.heap news) (hso : (so, ks_superObj 178 x 178) ∈ news) (hx : (x, accObj cd its n) ∈ news)
    (h : ∀ q h', Fr h₀ L h' m → News h₀ L h' ((q, bmObj "method-wrapper" "list.__init__" x) :: news) → (∀ p ∈ news, p.1 < q) → Q (.ref q, []) { s with heap := h', toks := s.toks + 1 }) : wpAny (model PG w) A (getMethod (.ref so) "__init__" pl) Q E s := by
  have X := X₀.keeps F.keep
  obtain ⟨hh, g, d, t, os⟩ := s
  refine sup_getMethod (o := bmObj "method-wrapper" "list.__init__" x) (N _ hso).1 (looks_opaque X (kfacts2 w).2.1) (acc_mro X) X acc_drop (kfacts2 w).2.2.2.2.1 type_linit slot_wd_get.lookup (acc_ne X (N _ hx).1) (by decide) (fun q => bind_linit X (N _ hx).1 q) ?_
  exact h _ _ (F.push _) (N.push F _) (fun p hp => Heap.lt_size (N p hp).1)
theorem sup_len {Q : Value × List Value → Shared → Prop} (F : Fr h₀ L s.heap m) (X₀ : (fr.heap_1 w.params).In h₀) (N : News h₀ L s.heap news) (hso : (so, ks_superObj 178 x 178) ∈ news) (hx : (x, accObj cd its n) ∈ news)
    (h : ∀ q h', Fr h₀ L h' m → News h₀ L h' ((q, bmObj "method-wrapper" "list.__len__" x) :: news) → (∀ p ∈ news, p.1 < q) → Q (.ref q, []) { s with heap := h', toks := s.toks + 1 }) : wpAny (model PG w) A (getMethod (.ref so) "__len__" pl) Q E s := by
  have X := X₀.keeps F.keep
  obtain ⟨hh, g, d, t, os⟩ := s
  refine sup_getMethod (o := bmObj "method-wrapper" "list.__len__" x) (N _ hso).1 (looks_opaque X (kfacts2 w).2.1) (acc_mro X) X acc_drop (kfacts2 w).2.2.2.2.2 type_llen slot_wd_get.lookup (acc_ne X (N _ hx).1) (by decide) (fun q => bind_llen X (N _ hx).1 q) ?_
  exact h _ _ (F.push _) (N.push F _) (fun p hp => Heap.lt_size (N p hp).1)
end
end
section
open PySem PySem.Spec PySem.Calls PySem.W PyProof.Rows
set_option maxRecDepth 100000
set_option maxHeartbeats 0
section
variable {w : World} {A : Around} {E : Value → Shared → Prop} {s : Shared} {x cd : Addr} {its : Array Value} {n : Nat} {h₀ : Heap} {L q : Addr} {m : Str → Option Value} {news news' : List (Addr × Obj)} {env : Env} {pos : Pos}
theorem upd_acc {f : Array Value → Array Value} {g : Obj → List (Addr × Obj)} (F : Fr h₀ L s.heap m) (N : News h₀ L s.heap news) (U : UpdF x (accObj cd its n) news g) :
    s.heap.get? x = some (accObj cd its n) ∧ ∃ n', Fr h₀ L (s.heap.update x (Obj.mapSeq f)) m ∧ News h₀ L (s.heap.update x (Obj.mapSeq f)) (g (accObj cd (f its) n')) := by
  obtain ⟨pre, post, rfl, hg, a, b⟩ := U.split
  obtain ⟨U1, U2⟩ := news_upd (f := Obj.mapSeq f) (o' := accObj cd (f its) (if (f its).size == its.size then n else n + 1)) F N a b rfl rfl
  exact ⟨(N (x, accObj cd its n) (by simp)).1, _, U1, hg _ ▸ U2⟩
theorem append_acc {v : Value} {g : Obj → List (Addr × Obj)} {Q : Value → Shared → Prop} (F : Fr h₀ L s.heap m) (X₀ : (fr.heap_1 w.params).In h₀) (N : News h₀ L s.heap news) (U : UpdF x (accObj cd its n) news g) (hz : its.size ≤ 1000)
    (h : ∀ n' h', Fr h₀ L h' m → News h₀ L h' (g (accObj cd (its.push v) n')) → Q .none { s with heap := h' }) : wpAny (model PG w) A (call (.builtin "list.append") [.ref x, v]) Q E s := by
  obtain ⟨hx, n', F', N'⟩ := upd_acc (f := fun y => y.push v) F N U
  exact acc_append (X₀.keeps F.keep) hx hz (h _ _ F' N')
theorem keeps_bm {M : Model} {cls id : String} (hc : cls = "builtin_function_or_method" ∨ cls = "method-wrapper") (h : Heap) (X : h.get? q = some (bmObj cls id x)) : ∃ k, (k = Keeper.frame ∨ k = Keeper.machine ∨ k = Keeper.boundFrame) ∧ Looks M h (keeperOf (.ref q)) k := by
  refine ⟨.machine, .inr (.inl rfl), (Looks.ld (part := none) X).andThen ?_⟩
  rcases hc with rfl | rfl <;> exact .now
theorem bm_callWith {cls id : String} {Q : Value → Shared → Prop} (N : News h₀ L s.heap news) (hq : (q, bmObj cls id x) ∈ news) (hc : cls = "builtin_function_or_method" ∨ cls = "method-wrapper")
    (h : wpAny (model PG w) A (call (.ref q) ([] ++ [])) Q E s) : wpAny (model PG w) A (callWith pos (.ref q) [] (backTo pos (starEach [] env)) []) Q E s :=
  callWith_of (P := fun h => h.get? q = some (bmObj cls id x)) rfl (keeps_bm hc) (evalArgs_nil3 ⟨(N _ hq).1, h⟩)


theorem bm_open {cls id : String} {b : Builtin} {Q : Value → Shared → Prop} (hc : cls = "builtin_function_or_method" ∨ cls = "method-wrapper") (hq : s.heap.get? q = some (bmObj cls id x)) (hp : plainId id = true) (hb : entryFor table id = some b)
    (hk : ∀ {Q' : Unit → Shared → Prop} {E' : Value → Shared → Prop}, Q' () s → wpAny (model PG w) A.in1 (checkBoundCall id ⟨[.ref x], []⟩) Q' E' s)
    (h : wpAny (model PG w) A.in1 (b ⟨[.ref x], []⟩) (fun fin s' => ∃ v, fin = .done (.ret v) ∧ Q v s') E s) : wpAny (model PG w) A (call (.ref q) []) Q E s := by
  refine wpAny_call (codeAny_of_tree ?_)
  show wpAny _ A.in1 (callAny (.ref q) _) _ _ _
  unfold callAny
  refine wpAny_bind (wpAny_load hq ?_)
  try dsimp only
  rw [if_pos (by rcases hc with rfl | rfl <;> decide)]
  show wpAny _ _ (if (Value.type cls != Value.type "method") = true then checkBoundCall id ⟨[.ref x], []⟩ >>= fun _ => again (.builtin id ⟨[.ref x], []⟩) else again (.call (.builtin id) ⟨[.ref x], []⟩)) _ _ _
  rw [if_pos (by rcases hc with rfl | rfl <;> decide)]
  refine wpAny_bind (hk ?_)
  refine wpAny_pure ⟨plainId_quiet hp _, codeAny_builtin hb ?_⟩
  rw [Around.under_plainId hp _]
  refine wpAny_mono h (fun fin s' z => ?_) fun _ _ z => z
  obtain ⟨v, rfl, z⟩ := z
  exact z
theorem cbc_len {Q : Unit → Shared → Prop} (q : Q () s) : wpAny (model PG w) A (checkBoundCall "list.__len__" ⟨[.ref x], []⟩) Q E s :=
  wpAny_of_eq (show checkBoundCall "list.__len__" ⟨[.ref x], []⟩ = pure () by kernel_rfl) q
theorem cbc_init {Q : Unit → Shared → Prop} (q : Q () s) : wpAny (model PG w) A (checkBoundCall "list.__init__" ⟨[.ref x], []⟩) Q E s :=
  wpAny_of_eq (show checkBoundCall "list.__init__" ⟨[.ref x], []⟩ = pure () by kernel_rfl) q
theorem bm_call_len {Q : Value → Shared → Prop} (F : Fr h₀ L s.heap m) (X₀ : (fr.heap_1 w.params).In h₀) (N : News h₀ L s.heap news) (hq : (q, bmObj "method-wrapper" "list.__len__" x) ∈ news) (hx : (x, accObj cd its n) ∈ news)
    (h : Q (.int (its.size : Int) s.toks) { s with toks := s.toks + 1 }) : wpAny (model PG w) A (call (.ref q) []) Q E s := by
  refine bm_open (.inr rfl) (N _ hq).1 (by decide +kernel) PySem.F.entry_list_len cbc_len ?_
  have hx' := (N _ hx).1
  obtain ⟨hp, g, d, tk, os⟩ := s
  wp_walk
  exact ⟨_, rfl, h⟩
theorem bm_call_init {g : Obj → List (Addr × Obj)} {Q : Value → Shared → Prop} (F : Fr h₀ L s.heap m) (X₀ : (fr.heap_1 w.params).In h₀) (N : News h₀ L s.heap news) (hq : (q, bmObj "method-wrapper" "list.__init__" x) ∈ news) (U : UpdF x (accObj cd #[] n) news g)
    (h : ∀ n' h', Fr h₀ L h' m → News h₀ L h' (g (accObj cd #[] n')) → Q .none { s with heap := h' }) : wpAny (model PG w) A (call (.ref q) []) Q E s := by
  refine bm_open (.inr rfl) (N _ hq).1 (by decide +kernel) PySem.F.entry_list_init cbc_init ?_
  obtain ⟨hx, n', F', N'⟩ := upd_acc (f := fun _ => #[]) F N U
  have h := h _ _ F' N'
  obtain ⟨hp, g, d, tk, os⟩ := s
  wp_walk using (wpAny_updateSeq hx rfl (hz := by decide) (_hz' := by decide))
  exact ⟨_, rfl, h⟩
theorem cbc_pop {Q : Unit → Shared → Prop} (X : (fr.heap_1 w.params).In s.heap) (hx : s.heap.get? x = some (accObj cd its n)) (q : Q () s) : wpAny (model PG w) A (checkBoundCall "list.pop" ⟨[.ref x], []⟩) Q E s := by
  have L1 : Looks (model PG w) s.heap (isSubtype (.ref 178) (.type "module")) false := looks_subIn X (by kernel_rfl)
  have L2 : Looks (model PG w) s.heap (typeOf (.ref 178)) (.type "type") := looks_typeIn X (by kernel_rfl)
  obtain ⟨hp, g, d, tk, os⟩ := s
  unfold checkBoundCall
  obtain ⟨oc, od, cdt, sl, hC, hqn⟩ : ∃ oc od cdt sl, hp.get? 178 = some ⟨oc, od, .cls cdt, sl⟩ ∧ cdt.qualname = ("_Accumulator" : Str) := by
    obtain ⟨cd', hc, hqn⟩ := Option.map_eq_some_iff.mp (show (clsIn (fr.heap_1 w.params) 178).map (·.qualname) = some ("_Accumulator" : Str) by kernel_rfl)
    unfold clsIn at hc
    split at hc
    · rename_i c d cd'' sl ho
      cases hc
      exact ⟨_, _, _, _, X _ _ ho, hqn⟩
    · cases hc
  have e0 : toString cdt.qualname.toString ++ toString "." ++ toString (Bind.lastOf "list.pop") = "_Accumulator.pop" := by rw [hqn]; decide +kernel
  have e1 : Bind.checkArgs "list.pop" { machinery := Manifest.Machinery.positional, full := "_Accumulator.pop", short := "pop", receiver := Manifest.Receiver.self, params := [{ name := "index", kind := Manifest.ParamKind.posOnly, required := false }] } ⟨[.ref x], []⟩ = pure () := by kernel_rfl
  repeat (first | (with_reducible refine Looks.at L1 ?_) | (with_reducible refine Looks.at L2 ?_) | (with_reducible refine ks_wpAny_isType_inst hx (by intro c e; cases e) ?_) | (with_reducible refine wpAny_load hC ?_) | (with_reducible refine wpAny_of_eq e1 ?_) | rw [e0] | wp_step | dsimp only)
  all_goals exact q
theorem bm_call_pop {g : Obj → List (Addr × Obj)} {y : Value} {Q : Value → Shared → Prop} (F : Fr h₀ L s.heap m) (X₀ : (fr.heap_1 w.params).In h₀) (N : News h₀ L s.heap news) (hq : (q, bmObj "builtin_function_or_method" "list.pop" x) ∈ news) (U : UpdF x (accObj cd its n) news g)
    (hz : its.size ≤ 1000) (hy : its[its.size - 1]? = some y)
    (h : ∀ n' h', Fr h₀ L h' m → News h₀ L h' (g (accObj cd (its.eraseIdxIfInBounds (its.size - 1)) n')) → Q y { s with heap := h' }) : wpAny (model PG w) A (call (.ref q) []) Q E s := by
  obtain ⟨hx, n', F', N'⟩ := upd_acc (f := fun xs => xs.eraseIdxIfInBounds (its.size - 1)) F N U
  refine bm_open (.inl rfl) (N _ hq).1 (by decide +kernel) PySem.F.entry_list_pop (cbc_pop (X₀.keeps F.keep) hx) ?_
  have h := h _ _ F' N'
  obtain ⟨hp, g, d, tk, os⟩ := s
  have hsz : its.size ≤ sizeLine := by rw [sizeLine_eq]; (first | lia | omega)
  have hpos : 0 < its.size := by
    rcases Nat.eq_zero_or_pos its.size with h0 | h0
    · simp [h0] at hy
    · exact h0
  have hne : ¬ its.isEmpty = true := by
    intro he; have : its.size = 0 := by simpa using he
    (first | lia | omega)
  have hk : seqIndex? (-1) its.size = some (its.size - 1) := by
    rw [seqIndex_neg (by (first | lia | omega)) (by (first | lia | omega))]; congr 1; (first | lia | omega)
  wp_walk using wpAny_loadPart' hx
  simp only [hk, hy, Option.bind_some, Option.map_some]
  have hz' : (its.eraseIdxIfInBounds (its.size - 1)).size ≤ sizeLine + 1 := by
    have := erased_le its (its.size - 1)
    (first | lia | omega)
  wp_walk using (wpAny_updateSeq hx rfl (hz := hsz) (_hz' := hz')), wpAny_loadPart' hx
  exact ⟨_, rfl, h⟩

theorem accI_news {od : Obj} {h : Heap} (N : News h₀ L h news) (h1 : (x, accObj cd its n) ∈ news) (h2 : (cd, od) ∈ news) : InstAt h x (accObj cd its n) 178 (some od) := accI (N _ h1).1 (N _ h2).1
theorem get_acc {es : List DictEntry} {k : Nat} {name : Str} {v : Value} {attr : Option Value} {expr : Bool} {Q : Value → Shared → Prop} (F : Fr h₀ L s.heap m) (X₀ : (fr.heap_1 w.params).In h₀) (N : News h₀ L s.heap news) (h1 : (x, accObj cd its n) ∈ news) (h2 : (cd, dictOf es k) ∈ news)
    (hh : hasDictIn (fr.heap_1 w.params) 178 = true) (ha : findIn (fr.heap_1 w.params) (.ref 178) name = some attr) (hn : noGet (fr.heap_1 w.params) attr = true) (hl : getL name es = some (some v)) (hv : handedIn v = true)
    (h : Q v { s with toks := s.toks + 1 }) : wpAny (model PG w) A (getAttr (.ref x) name expr) Q E s :=
  acc_getattr (X₀.keeps F.keep) (accI_news N h1 h2) (N _ h1).1 (findObj_own hh ha hn hl) hv h
theorem shadow_none {es : List DictEntry} {k : Nat} {name : Str} (hl : getL name es = some none) : shadowIn (some (dictOf es k)) name = some false := by
  show (lookIn name (dictOf es k)).map _ = _
  rw [lookIn_dict, hl]; rfl
theorem method_acc_fn {es : List DictEntry} {k : Nat} {name : Str} {f : Addr} {pl : Sem Bool} {Q : Value × List Value → Shared → Prop} (F : Fr h₀ L s.heap m) (X₀ : (fr.heap_1 w.params).In h₀) (N : News h₀ L s.heap news) (h1 : (x, accObj cd its n) ∈ news) (h2 : (cd, dictOf es k) ∈ news)
    (hf : findIn (fr.heap_1 w.params) (.ref 178) name = some (some (.ref f))) (ht : isFn (fr.heap_1 w.params) (.ref f) = true) (hl : getL name es = some none) (h : Q (.ref f, [.ref x]) s) : wpAny (model PG w) A (getMethod (.ref x) name pl) Q E s :=
  acc_method_fn (X₀.keeps F.keep) (N _ h1).1 (N _ h2).1 hf (beq_iff_eq.mp ht) (shadow_none hl) h
theorem method_acc_app {es : List DictEntry} {k : Nat} {pl : Sem Bool} {Q : Value × List Value → Shared → Prop} (F : Fr h₀ L s.heap m) (X₀ : (fr.heap_1 w.params).In h₀) (N : News h₀ L s.heap news) (h1 : (x, accObj cd its n) ∈ news) (h2 : (cd, dictOf es k) ∈ news)
    (hl : getL "append" es = some none) (h : Q (.builtin "list.append", [.ref x]) s) : wpAny (model PG w) A (getMethod (.ref x) "append" pl) Q E s :=
  acc_method_bi (X₀.keeps F.keep) (N _ h1).1 (N _ h2).1 (acc_fapp w) (acc_tapp w) (shadow_none hl) h
end
end
section
open PySem PySem.Spec PySem.Calls PySem.W PyProof.Rows
set_option maxRecDepth 100000
set_option maxHeartbeats 0
theorem rows_S1_1 : True := by
  k_with_none
  w_top off
  k_with "z8" => ((try (case A => assumption)); (case B => k_asm); (case F => k_asm); (case X => k_asm); (case N => first | k_asm | exact cb_drop (by k_asm) (by intro p hp; repeat (first | exact hp | apply List.Mem.tail))); (case T => k_asm); (case hk => first | exact rfl | assumption); (case hdp => ktr_room); (case hun => ktr_units); (try (case G => assumption)))
  k_with "zn" => (first | assumption | k_mem | (first | lia | omega))
  k_with "k_mem" => (assumption)
  k_with "k_ne" => (first | exact ne_mem1 (by with_reducible assumption) (by with_reducible assumption) | exact ne_mem2 (by with_reducible assumption) (by with_reducible assumption))
  k_with "execs cons" => (first | (k_here; k_gentoks) | ((try (rename Flow → Shared → Prop => qq; clear qq)); (try (rename Value → Shared → Prop => qq; clear qq)); refine wpAny_execs_cons ?_; (try dsimp only); k_fold))
  trivial

theorem rows_S1_2 : True := by
  k_with "k_updF" => (with_reducible assumption)
  k_with "k_inst" => (refine accI_news (by k_asm) (by k_mem) (by k_mem))
  k_with "getAttr ref" => (k_here; k_dflt (refine get_acc (by k_asm) (by k_asm) (by k_asm) (by k_mem) (by k_mem) (by k_is) (by k_is) (by k_is) (by k_get) (by k_handed) ?_; k_whole))
  k_with "getMethod ref" => (k_here; k_dflt (first | ((with_reducible show wpAny _ _ (getMethod (Value.ref _) (PySem.Str.ofString "append") _) _ _ _); refine method_acc_app (by k_asm) (by k_asm) (by k_asm) (by k_mem) (by k_mem) (by k_get) ?_; k_whole) | (refine method_acc_fn (by k_asm) (by k_asm) (by k_asm) (by k_mem) (by k_mem) (by k_is) (by k_is) (by k_get) ?_; k_whole) | ((with_reducible show wpAny _ _ (getMethod (Value.ref _) (PySem.Str.ofString "pop") _) _ _ _); refine sup_pop (by k_asm) (by k_asm) (by k_asm) (by k_mem) (by k_mem) ?_; k_whole; intro q' h' F' N' l1; (try k_lt l1); revert q' h' F' N' l1; intros) | ((with_reducible show wpAny _ _ (getMethod (Value.ref _) (PySem.Str.ofString "__len__") _) _ _ _); refine sup_len (by k_asm) (by k_asm) (by k_asm) (by k_mem) (by k_mem) ?_; k_whole; intro q' h' F' N' l1; (try k_lt l1); revert q' h' F' N' l1; intros) | ((with_reducible show wpAny _ _ (getMethod (Value.ref _) (PySem.Str.ofString "__init__") _) _ _ _); refine sup_init (by k_asm) (by k_asm) (by k_asm) (by k_mem) (by k_mem) ?_; k_whole; intro q' h' F' N' l1; (try k_lt l1); revert q' h' F' N' l1; intros)))
  k_with "call builtin:list.append" => (k_here; k_dflt (refine append_acc (by k_asm) (by k_asm) (by k_asm) (by k_updF) (by first | assumption | (first | lia | omega)) ?_; k_whole; intro n' h' F' N'; (try dsimp only at N'); revert n' h' F' N'; intros))
  k_with "callWith ref" => (k_here; k_dflt ((with_reducible show wpAny _ _ (callWith _ (Value.ref _) [] (backTo _ (starEach [] _)) []) _ _ _); refine bm_callWith (by k_asm) (by k_mem) (by first | exact .inl rfl | exact .inr rfl) ?_; k_whole; (try dsimp only [List.nil_append])))
  k_with "call ref" => (k_here; k_dflt (first | (refine bm_call_len (by k_asm) (by k_asm) (by k_asm) (by k_mem) (by k_mem) ?_; k_whole) | (refine bm_call_init (by k_asm) (by k_asm) (by k_asm) (by k_mem) (by k_updF) ?_; k_whole; intro n' h' F' N'; (try dsimp only at N'); revert n' h' F' N'; intros) | (refine bm_call_pop (by k_asm) (by k_asm) (by k_asm) (by k_mem) (by k_updF) (by first | assumption | (first | lia | omega)) (by assumption) ?_; k_whole; intro n' h' F' N'; (try dsimp only at N'); revert n' h' F' N'; intros)))
  k_with "wpAt" => ((fail_if_success ks_step "execs cons"); dsimp only; ks_step "execs cons"; refine ks_wpAt_execs_cons ?_)
  k_with "wpAt" => (ks_step "eval Call"; k_dflt (refine ks_wpAt_MethodCall ?_))
  k_with "k_ne" => (first | exact ne_mem1 (by with_reducible assumption) (by with_reducible assumption) | exact ne_mem1 (And.right (by with_reducible assumption)) (by with_reducible assumption) | exact ne_mem1 (And.right (And.right (by with_reducible assumption))) (by with_reducible assumption) | exact ne_mem1 (And.right (And.right (And.right (by with_reducible assumption)))) (by with_reducible assumption) | exact ne_mem1 (And.right (And.right (And.right (And.right (by with_reducible assumption))))) (by with_reducible assumption) | exact ne_mem1 (And.right (And.right (And.right (And.right (And.right (by with_reducible assumption)))))) (by with_reducible assumption) | exact ne_mem1 (And.right (And.right (And.right (And.right (And.right (And.right (by with_reducible assumption))))))) (by with_reducible assumption))
  k_with "subscriptTail" => (k_here; (with_reducible show wpAny _ _ (subscriptTail _ _ (Value.ref _) (Value.int _ _)) _ _ _); k_dflt (refine acc_itemTail (by k_asm) (by k_asm) (by k_asm) (by k_mem) (by first | assumption | (first | lia | omega)) (by (first | lia | omega)) (by assumption) (by with_unfolding_all rfl) ?_; k_whole))
  k_with "subscriptTail" => (k_here; (with_reducible show wpAny _ _ (subscriptTail _ _ (Value.ref _) (Value.ref _)) _ _ _); k_dflt (refine acc_sliceTail (by k_asm) (by k_asm) (by k_asm) (by k_mem) (by first | exact IsPart.none | exact IsPart.int _ _) (by first | exact IsPart.none | exact IsPart.int _ _) (by first | assumption | (first | lia | omega)) (by with_unfolding_all rfl) ?_; k_whole; intro l' h' F' N' l1; (try k_lt l1); revert l' h' F' N' l1; intros))
  k_with "setItem ref" => (k_here; k_dflt (refine acc_sliceSet (by k_asm) (by k_asm) (by k_asm) (by k_updF) (by first | exact IsPart.none | exact IsPart.int _ _) (by first | exact IsPart.none | exact IsPart.int _ _) (by k_mem) (by first | assumption | (first | lia | omega)) (by first | assumption | decide | (simp; done) | (first | lia | omega)) ?_; k_whole; intro n' h' F' N'; (try dsimp only at N'); revert n' h' F' N'; intros))
  k_with "setAttr ref" => (k_here; k_dflt (refine set_acc (by k_asm) (by k_asm) (by k_asm) (by k_mem) (by k_is) (by k_is) (by k_get) (by k_put) (by k_upd) (by simp) ?_; k_whole; intro h' F' N'; (try dsimp only at N'); revert h' F' N'; intros))
  k_with "execs cons" => (first | (k_here; k_gentoks) | ((try (rename Flow → Shared → Prop => qq; clear qq)); (try (rename Value → Shared → Prop => qq; clear qq)); refine wpAny_execs_cons ?_; (try dsimp only); k_fold))
  trivial
theorem pc_spec : ∀ {w : World} {loose : List Str} {mean : ExcName → Option Value} {mg mb : Str → Option Value} {dp un : Nat} {gd : Option (List Code)} {cn : Str} {cs : Scope} {a : Addr} {ccd : Value} {cl : List (Str × Addr)} {outer : List Env} {A₀ : Around} {base h₀ : Heap} {L : Addr} {m : Str → Option Value} {s : Shared} {Q E : Value → Shared → Prop} {news : List (Addr × Obj)} {ca cd : Nat} {its : Array Value} {n : Nat} {h1 : Int} {x1 x2 : Tok}
  (B : Below A₀ base outer h₀) (F : Fr h₀ L s.heap m) (X : (fr.heap_1 w.params).In h₀) (N : News h₀ L s.heap news) (T : Top topProg loose mean mg mb h₀) (hk : cs.kind = .function) (hdp : dp + 2 < recursionLimit) (hun : un + 24 < cLine) (ha : (ca, accObj cd its n) ∈ news) (hcd : (cd, dictOf [⟨h1, .str (Str.ofString "_initial_size") x1, .int 0 x2⟩] 1) ∈ news) (hz : its.size ≤ 1000) (hret : ∀ tk h₁ tk₁, Fr h₀ L h₁ m → News h₀ L h₁ news → Q (.int (its.size : Int) tk) { s with heap := h₁, toks := tk₁ }),
  wpAny (model PySem.Challenge.rw_wu0100_01.row.prog w) (ktrTop dp un gd cn cs L a ccd cl outer) (call (.ref 175) [.ref ca]) Q E s := by
  k_fill
  intro w loose mean mg mb dp un gd cn cs a ccd cl outer A₀ base h₀ L m s Q E news ca cd its n h1 x1 x2 B F X N T hk hdp hun ha hcd hz hret
  refine wpAny_call ?_
  k_dflt (refine' ks_code_super ?k1 ?k2 ?k3 ?k4 ?k5 ?kA ?kF ?kK ?k6 ?k7 ?k8 ?k9 ?kB ?_ ?c1 ?c2 ?c3 ?c4; (case kA => exact rfl); (case kF => exact rfl); (case kK => first | exact rfl | assumption); (case k1 => k_asm); (case k2 => k_asm); (case k3 => k_asm); (case k4 => k_asm); (case k5 => k_asm); (case k6 => k_is); (case k7 => k_is); (case k8 => ktr_room); (case k9 => exact BindsTo.of_eq rfl); (case kB => exact locs rfl); (case c1 => decide); (case c2 => exact rfl); (case c3 => exact rfl); (case c4 => exact rfl); intro g' L' h' FG' F' N' B' X' T' l1; (try dsimp only); (try k_lift B'))
  k_steps
  all_goals exact hret _ _ _ (by k_asm) (cb_drop (by assumption) (by intro p hp; repeat (first | exact hp | apply List.Mem.tail)))
theorem push_spec : ∀ {w : World} {loose : List Str} {mean : ExcName → Option Value} {mg mb : Str → Option Value} {dp un : Nat} {gd : Option (List Code)} {cn : Str} {cs : Scope} {a : Addr} {ccd : Value} {cl : List (Str × Addr)} {outer : List Env} {A₀ : Around} {base h₀ : Heap} {L : Addr} {m : Str → Option Value} {s : Shared} {Q E : Value → Shared → Prop} {news : List (Addr × Obj)} {g : Obj → List (Addr × Obj)} {ca cd : Nat} {its : Array Value} {n : Nat} {h1 : Int} {x1 x2 : Tok} {v1 v2 : Value}
  (B : Below A₀ base outer h₀) (F : Fr h₀ L s.heap m) (X : (fr.heap_1 w.params).In h₀) (N : News h₀ L s.heap news) (T : Top topProg loose mean mg mb h₀) (hk : cs.kind = .function) (hdp : dp + 2 < recursionLimit) (hun : un + 24 < cLine) (U : UpdF ca (accObj cd its n) news g) (ha : (ca, accObj cd its n) ∈ news) (hcd : (cd, dictOf [⟨h1, .str (Str.ofString "_initial_size") x1, .int 0 x2⟩] 1) ∈ news) (hz : its.size ≤ 1000) (hret : ∀ tt n₁ h₁ tk₁, Fr h₀ L h₁ m → News h₀ L h₁ ((tt, { cls := .type "tuple", data := .seq #[v1, v2] }) :: g (accObj cd (its.push (.ref tt)) n₁)) → (∀ p ∈ news, p.1 < tt) → Q .none { s with heap := h₁, toks := tk₁ }),
  wpAny (model PySem.Challenge.rw_wu0100_01.row.prog w) (ktrTop dp un gd cn cs L a ccd cl outer) (call (.ref 122) [.ref ca, v1, v2]) Q E s := by
  k_fill
  intro w loose mean mg mb dp un gd cn cs a ccd cl outer A₀ base h₀ L m s Q E news g ca cd its n h1 x1 x2 v1 v2 B F X N T hk hdp hun U ha hcd hz hret
  refine wpAny_call ?_
  k_dflt (refine' code_def ?k1 ?k2 ?k3 ?k4 ?k5 ?kA ?kF ?kK ?k6 ?k7 ?k8 ?k9 ?kB ?_ ?c2 ?c3 ?c4 ?c5; (case kA => exact rfl); (case kF => exact rfl); (case kK => first | exact rfl | assumption); (case k1 => k_asm); (case k2 => k_asm); (case k3 => k_asm); (case k4 => k_asm); (case k5 => k_asm); (case k6 => k_is); (case k7 => k_is); (case k8 => ktr_room); (case k9 => exact BindsTo.of_eq rfl); (case c5 => decide); (case kB => exact locs rfl); (case c2 => exact rfl); (case c3 => exact rfl); (case c4 => exact rfl); k_whole; intro g' L' h' FG' F' N' B' X' T'; (try dsimp only); (try k_lift B'); (try k_fold))
  k_steps
  all_goals exact hret _ _ _ _ (by k_asm) (by k_asm) (by first | assumption | exact allLt_all _ (by assumption))
theorem rows_S1_3 : True := by
  k_with "call ref" => (k_here; k_dflt ((with_reducible show wpAny _ _ (call (Value.ref 175) _ _) _ _ _); (apply pc_spec; walk_at "z8"; (· walk_at "zn"); (· walk_at "zn"); (· walk_at "zn"); k_whole; intros)))
  k_with "execs cons" => (first | (k_here; k_gentoks) | ((try (rename Flow → Shared → Prop => qq; clear qq)); (try (rename Value → Shared → Prop => qq; clear qq)); refine wpAny_execs_cons ?_; (try dsimp only); k_fold))
  trivial
theorem pop_empty : ∀ {w : World} {loose : List Str} {mean : ExcName → Option Value} {mg mb : Str → Option Value} {dp un : Nat} {gd : Option (List Code)} {cn : Str} {cs : Scope} {a : Addr} {ccd : Value} {cl : List (Str × Addr)} {outer : List Env} {A₀ : Around} {base h₀ : Heap} {L : Addr} {m : Str → Option Value} {s : Shared} {Q E : Value → Shared → Prop} {news : List (Addr × Obj)} {ca cd : Nat} {its : Array Value} {n : Nat} {h1 : Int} {x1 x2 : Tok}
  (B : Below A₀ base outer h₀) (F : Fr h₀ L s.heap m) (X : (fr.heap_1 w.params).In h₀) (N : News h₀ L s.heap news) (T : Top topProg loose mean mg mb h₀) (hk : cs.kind = .function) (hdp : dp + 4 < recursionLimit) (hun : un + 48 < cLine) (ha : (ca, accObj cd its n) ∈ news) (hcd : (cd, dictOf [⟨h1, .str (Str.ofString "_initial_size") x1, .int 0 x2⟩] 1) ∈ news) (hz : its.size ≤ 1000) (he : its.size = 0) (hret : ∀ tt k1 k2 h₁ tk₁, Fr h₀ L h₁ m → News h₀ L h₁ ((tt, { cls := .type "tuple", data := .seq #[.str (Str.ofString "") k1, .str (Str.ofString "") k2] }) :: news) → (∀ p ∈ news, p.1 < tt) → Q (.ref tt) { s with heap := h₁, toks := tk₁ }),
  wpAny (model PySem.Challenge.rw_wu0100_01.row.prog w) (ktrTop dp un gd cn cs L a ccd cl outer) (call (.ref 138) [.ref ca]) Q E s := by
  k_fill
  intro w loose mean mg mb dp un gd cn cs a ccd cl outer A₀ base h₀ L m s Q E news ca cd its n h1 x1 x2 B F X N T hk hdp hun ha hcd hz he hret
  refine wpAny_call ?_
  k_dflt (refine' ks_code_super ?k1 ?k2 ?k3 ?k4 ?k5 ?kA ?kF ?kK ?k6 ?k7 ?k8 ?k9 ?kB ?_ ?c1 ?c2 ?c3 ?c4; (case kA => exact rfl); (case kF => exact rfl); (case kK => first | exact rfl | assumption); (case k1 => k_asm); (case k2 => k_asm); (case k3 => k_asm); (case k4 => k_asm); (case k5 => k_asm); (case k6 => k_is); (case k7 => k_is); (case k8 => ktr_room); (case k9 => exact BindsTo.of_eq rfl); (case kB => exact locs rfl); (case c1 => decide); (case c2 => exact rfl); (case c3 => exact rfl); (case c4 => exact rfl); intro g' L' h' FG' F' N' B' X' T' l1; (try dsimp only); (try k_lift B'))
  k_steps
  all_goals first | (exfalso; (first | lia | omega)) | exact hret _ _ _ _ _ (by k_asm) (by k_asm) (by first | assumption | exact allLt_all _ (by assumption))
theorem pop_spec : ∀ {w : World} {loose : List Str} {mean : ExcName → Option Value} {mg mb : Str → Option Value} {dp un : Nat} {gd : Option (List Code)} {cn : Str} {cs : Scope} {a : Addr} {ccd : Value} {cl : List (Str × Addr)} {outer : List Env} {A₀ : Around} {base h₀ : Heap} {L : Addr} {m : Str → Option Value} {s : Shared} {Q E : Value → Shared → Prop} {news : List (Addr × Obj)} {g : Obj → List (Addr × Obj)} {ca cd : Nat} {its : Array Value} {n : Nat} {h1 : Int} {x1 x2 : Tok}
  (B : Below A₀ base outer h₀) (F : Fr h₀ L s.heap m) (X : (fr.heap_1 w.params).In h₀) (N : News h₀ L s.heap news) (T : Top topProg loose mean mg mb h₀) (hk : cs.kind = .function) (hdp : dp + 4 < recursionLimit) (hun : un + 48 < cLine) (U : UpdF ca (accObj cd its n) news g) (ha : (ca, accObj cd its n) ∈ news) (hcd : (cd, dictOf [⟨h1, .str (Str.ofString "_initial_size") x1, .int 0 x2⟩] 1) ∈ news) (hz : its.size ≤ 1000) (y : Value) (hp : 0 < its.size) (hy : its[its.size - 1]? = some y) (hret : ∀ n₁ h₁ tk₁, Fr h₀ L h₁ m → News h₀ L h₁ (g (accObj cd (its.eraseIdxIfInBounds (its.size - 1)) n₁)) → Q y { s with heap := h₁, toks := tk₁ }),
  wpAny (model PySem.Challenge.rw_wu0100_01.row.prog w) (ktrTop dp un gd cn cs L a ccd cl outer) (call (.ref 138) [.ref ca]) Q E s := by
  k_fill
  intro w loose mean mg mb dp un gd cn cs a ccd cl outer A₀ base h₀ L m s Q E news g ca cd its n h1 x1 x2 B F X N T hk hdp hun U ha hcd hz y hp hy hret
  refine wpAny_call ?_
  k_dflt (refine' ks_code_super ?k1 ?k2 ?k3 ?k4 ?k5 ?kA ?kF ?kK ?k6 ?k7 ?k8 ?k9 ?kB ?_ ?c1 ?c2 ?c3 ?c4; (case kA => exact rfl); (case kF => exact rfl); (case kK => first | exact rfl | assumption); (case k1 => k_asm); (case k2 => k_asm); (case k3 => k_asm); (case k4 => k_asm); (case k5 => k_asm); (case k6 => k_is); (case k7 => k_is); (case k8 => ktr_room); (case k9 => exact BindsTo.of_eq rfl); (case kB => exact locs rfl); (case c1 => decide); (case c2 => exact rfl); (case c3 => exact rfl); (case c4 => exact rfl); intro g' L' h' FG' F' N' B' X' T' l1; (try dsimp only); (try k_lift B'))
  k_steps
  all_goals first | (exfalso; (first | lia | omega)) | exact hret _ _ _ (by k_asm) (cb_drop (by assumption) (by intro p hp; repeat (first | exact hp | apply List.Mem.tail)))
end
section
open PySem PySem.Spec PySem.Calls PySem.W PyProof.Rows PySem.Builtin PySem.Builtin.ObjectAttr
set_option maxRecDepth 100000
set_option maxHeartbeats 0
section
variable {w : World} {A : Around} {E : Value → Shared → Prop} {s : Shared} {x cd : Addr} {its : Array Value} {n : Nat} {h₀ : Heap} {L q : Addr} {m : Str → Option Value} {news news' : List (Addr × Obj)} {env : Env} {pos : Pos}
noncomputable def putSlice (its new : Array Value) (lo hi : Option Int) : Array Value :=
  its.extract 0 (sliceBounds lo hi none its.size).1.toNat ++ new ++ its.extract (max (sliceBounds lo hi none its.size).1 (sliceBounds lo hi none its.size).2.1).toNat its.size
theorem acc_setslice {sl l : Addr} {vl vu : Value} {lo hi : Option Int} {new : Array Value} {k : Nat} {Q : Unit → Shared → Prop} (X : (fr.heap_1 w.params).In s.heap) (hx : s.heap.get? x = some (accObj cd its n))
    (hs : s.heap.IsSliceOf sl vl vu .none) (pl : IsPart vl lo) (pu : IsPart vu hi) (hl : s.heap.get? l = some (listOf new k)) (hz : its.size ≤ 1000) (hz2 : new.size ≤ 1000)
    (h : Q () { s with heap := s.heap.update x (Obj.mapSeq fun xs => xs.extract 0 (sliceBounds lo hi none its.size).1.toNat ++ new ++ xs.extract (max (sliceBounds lo hi none its.size).1 (sliceBounds lo hi none its.size).2.1).toNat xs.size) }) : wpAny (model PG w) A (setItem (.ref x) (.ref sl) (.ref l)) Q E s := by
  obtain ⟨os, hos, hcs, hds⟩ := id hs
  have hTs : s.TypeIs (.ref sl) "slice" := ⟨os, hos, hcs⟩
  have hTl : s.TypeIs (.ref l) "list" := ⟨_, hl, rfl⟩
  have hxl : x ≠ l := by rintro rfl; rw [hx] at hl; cases hl
  unfold setItem
  try with_reducible refine wpAny_holding ?_
  first | refine wpAny_bind (wpAny_pure ?_) | skip
  refine wpAny_bind (acc_key X hx ?_)
  refine wpAny_bind (acc_special X hx (acc_fset w) slot_list_setitem.bind ?_)
  refine call_bi (b := Builtin.«list.__setitem__») (.inl (by decide +kernel)) (by decide +kernel : splitId "list.__setitem__" = some ("list", "__setitem__")) (by decide +kernel) entry_list_setitem (args_list_setitem _ _ _) (acc_inst X hx) ?_
  unfold Builtin.«list.__setitem__»
  refine wpAny_bind (wpAny_pure ?_)
  try dsimp only
  refine wpAny_bind ?_
  unfold Builtin.List.listSubscript?
  refine wpAny_bind (wpAny_specialOf hTs slice_no_index ?_)
  simp only [Option.isNone_none, if_true]
  refine wpAny_pure ?_
  refine wpAny_bind (wpAny_typeOf hTs ?_)
  rw [if_neg (by decide)]
  rw [listSliceParts_eq]
  refine wpAny_bind (wpAny_bind (wpAny_field hos hds (x := Value.none) rfl (wpAny_bind (wpAny_listPart .none ?_))))
  rw [if_neg (show ¬ ((rawPart none == rawInt 0) = true) from Bool.false_ne_true)]
  refine wpAny_bind (wpAny_field hos hds (x := vl) rfl (wpAny_bind (wpAny_listPart pl ?_)))
  refine wpAny_bind (wpAny_field hos hds (x := vu) rfl (wpAny_bind (wpAny_listPart pu (wpAny_pure ?_))))
  have e1 : Builtin.List.listSameRef (.ref x) (.ref l) = false := by
    have q : (x == l) = false := by simpa using hxl
    first | exact q | (unfold Builtin.List.listSameRef; exact q) | (simp [Builtin.List.listSameRef, hxl])
  rw [if_neg (by rw [e1]; decide)]
  refine wpAny_bind (m := Builtin.List.listAllItems (.ref l) _) ?_
  unfold Builtin.List.listAllItems
  refine wpAny_bind (wpAny_typeOf hTl ?_)
  rw [if_pos (by decide)]
  unfold Builtin.List.listItems
  refine wpAny_bind (wpAny_seqItems hl rfl (wpAny_pure ?_))
  refine wpAny_bind (wpAny_bind (wpAny_seqItems hx rfl (wpAny_pure ?_)))
  refine wpAny_bind (wpAny_of_eq (sliceIndices_raw lo hi none its.size (by intro e; cases e)) ?_)
  rw [if_pos (show ((sliceBounds lo hi none its.size).2.2 == 1) = true from rfl)]
  refine wpAny_bind (wpAny_rule ?_)
  have e2 : Builtin.List.listTooLong (its.size + new.size) = false := by
    unfold Builtin.List.listTooLong
    rw [sizeLine_eq]
    exact decide_eq_false (by (first | lia | omega))
  rw [if_neg (by rw [e2]; decide)]
  have hsz : its.size ≤ sizeLine := by rw [sizeLine_eq]; (first | lia | omega)
  have hz' : (its.extract 0 (sliceBounds lo hi none its.size).1.toNat ++ new ++ its.extract (max (sliceBounds lo hi none its.size).1 (sliceBounds lo hi none its.size).2.1).toNat its.size).size ≤ sizeLine + 1 := by
    simp only [Array.size_append, Array.size_extract]
    rw [sizeLine_eq]
    (first | lia | omega)
  refine wpAny_bind ?_
  refine wpAny_updateSeq hx rfl (hz := hsz) (_hz' := hz') ?_
  refine wpAny_bind (wpAny_letGo (wpAny_pure ⟨_, rfl, wpAny_pure h⟩))
theorem set_slice {g : Obj → List (Addr × Obj)} {sl l : Addr} {vl vu : Value} {lo hi : Option Int} {new : Array Value} {k : Nat} {Q : Unit → Shared → Prop} (F : Fr h₀ L s.heap m) (X₀ : (fr.heap_1 w.params).In h₀) (N : News h₀ L s.heap news) (U : UpdF x (accObj cd its n) news g)
    (hs : (sl, ({ cls := .type "slice", data := .fields #[vl, vu, .none] } : Obj)) ∈ news) (pl : IsPart vl lo) (pu : IsPart vu hi) (hl : (l, listOf new k) ∈ news) (hz : its.size ≤ 1000) (hz2 : new.size ≤ 1000)
    (h : ∀ n' h', Fr h₀ L h' m → News h₀ L h' (g (accObj cd (putSlice its new lo hi) n')) → Q () { s with heap := h' }) : wpAny (model PG w) A (setItem (.ref x) (.ref sl) (.ref l)) Q E s := by
  obtain ⟨hx, n', F', N'⟩ := upd_acc (f := fun xs => xs.extract 0 (sliceBounds lo hi none its.size).1.toNat ++ new ++ xs.extract (max (sliceBounds lo hi none its.size).1 (sliceBounds lo hi none its.size).2.1).toNat xs.size) F N U
  exact acc_setslice (X₀.keeps F.keep) hx ⟨_, (N _ hs).1, rfl, rfl⟩ pl pu (N _ hl).1 hz hz2 (h _ _ F' N')
theorem get_slice {sl : Addr} {vl vu : Value} {lo hi : Option Int} {Q : Value → Shared → Prop} (F : Fr h₀ L s.heap m) (X₀ : (fr.heap_1 w.params).In h₀) (N : News h₀ L s.heap news) (hx : (x, accObj cd its n) ∈ news)
    (hs : (sl, ({ cls := .type "slice", data := .fields #[vl, vu, .none] } : Obj)) ∈ news) (pl : IsPart vl lo) (pu : IsPart vu hi) (hz : its.size ≤ 1000)
    (h : ∀ l h', Fr h₀ L h' m → News h₀ L h' ((l, listOf (slicePick its lo hi none) 0) :: news) → (∀ p ∈ news, p.1 < l) → Q (.ref l) { s with heap := h' }) : wpAny (model PG w) A (getItem (.ref x) (.ref sl)) Q E s :=
  acc_slice (X₀.keeps F.keep) (N _ hx).1 ⟨_, (N _ hs).1, rfl, rfl⟩ pl pu .none (by intro e; cases e) (by rw [sizeLine_eq]; (first | lia | omega)) (h _ _ (F.push _) (N.push F _) (fun p hp => Heap.lt_size (N p hp).1))

theorem kfacts3 : ∀ w : World, PySem.Challenge.rw_wu0100_01 = PySem.Challenge.rw_wu0100_01 ∧ findIn (fr.heap_1 w.params) (.ref 178) "__setattr__" = some (some (.builtin "object.__setattr__")) := by
  k_fill
  intro w
  refine ⟨rfl, ?_⟩
  k_is
theorem refuse_acc (self : Value) : refuseLoop self "__setattr__" [.ref 178, .type "list", .type "object"] = pure () := by
  rw [refuseLoop_ref]
  kernel_rfl

theorem acc_osa_open {R : Result → Shared → Prop} {ox : Obj} {od : Option Obj} {name : Str} {tk : Tok} {v : Value} (X : (fr.heap_1 w.params).In s.heap) (I : InstAt s.heap x ox 178 od) (ht : takerIn (fr.heap_1 w.params) 178 name = some none)
    (h : ∀ b, wpAny (model PG w) A.in1 (storeInOwnDict (.ref x) (.ref 178) (.str name tk) name v b)
      (fun fin s' => match fin with | .done f => R (.ok f) s' | .again c' => c'.quiet = true ∧ codeAny (model PG w) A c' R s') (fun e s' => R (.error e) s') s) :
    codeAny (model PG w) A (.call (.builtin "object.__setattr__") ⟨[.ref x, .str name tk, v], []⟩) R s := by
  have SF := PySem.F.store_object
  have sub : Looks (model PG w) s.heap (isInstance (.ref x) (.type "object")) true := I.type.andThen (looks_subIn X (by kernel_rfl))
  refine codeAny_call_builtin SF.slot.plain SF.entry (@check_slot (model PG w) _ _ s "object.__setattr__" "object" "__setattr__" (.ref x) [.str name tk, v] [] _ SF.kind SF.split sub (SF.args (.ref x) (.str name tk) v) ?_)
  obtain ⟨attr, ha, hr⟩ := Option.bind_eq_some_iff.mp ht
  have L3 : Looks (model PG w) s.heap (storeTaker? attr) none := by
    cases attr with
    | none => cases hr; exact .now
    | some a =>
      obtain ⟨b, hb, hbr⟩ := Option.map_eq_some_iff.mp hr
      refine (looks_takesIn X hb).andThen ?_
      cases b
      · exact .now
      · cases hbr
  rw [osa_eq, refuse_eq]
  refine wpAny_bind (wpAny_bind (I.type.here (wpAny_bind ((acc_mro X).here ?_))))
  rw [refuse_acc]
  refine wpAny_pure (wpAny_bind (I.type.here (wpAny_bind ((looks_findIn X ha).here (wpAny_bind (L3.here ?_))))))
  exact h _
theorem set_acc {name : Str} {v : Value} {es es' : List DictEntry} {k k' : Nat} {Q : Unit → Shared → Prop} (F : Fr h₀ L s.heap m) (X₀ : (fr.heap_1 w.params).In h₀) (N : News h₀ L s.heap news) (hx : (x, accObj cd its n) ∈ news)
    (ht : takerIn (fr.heap_1 w.params) 178 name = some none) (hh : hasDictIn (fr.heap_1 w.params) 178 = true) (hl : (getL name es).isSome = true)
    (e : (putL name (PyData.keyHash w.params name) (.str name (s.toks + 1)) v es, putN name es k) = (es', k')) (U : Upd cd (dictOf es k) (dictOf es' k') news news') (hz : es'.length ≤ 1000)
    (h : ∀ h', Fr h₀ L h' m → News h₀ L h' news' → Q () { s with heap := h', toks := s.toks + 2 }) : wpAny (model PG w) A (setAttr (.ref x) name v) Q E s := by
  obtain ⟨pre, post, rfl, rfl, a, b⟩ := U.split
  obtain ⟨e1, e2⟩ := Prod.mk.inj e
  have X := X₀.keeps F.keep
  have I : InstAt s.heap x (accObj cd its n) 178 (some (dictOf es k)) := accI_news N hx (by simp)
  refine set_plain X I (kfacts3 w).2 ?_
  have hput : Obj.putName name (PyData.keyHash w.params name) (.str name (s.toks + 1)) v (dictOf es k) = dictOf es' k' := by rw [putName_dict, e1, e2]
  obtain ⟨U1, U2⟩ := news_upd (f := Obj.putName name (PyData.keyHash w.params name) (.str name (s.toks + 1)) v) F N a b hput rfl
  have D := (N (cd, dictOf es k) (by simp)).1
  have D' := (U2 (cd, dictOf es' k') (by simp)).1
  refine acc_osa_open (s := { s with toks := s.toks + 1 }) X I ht fun bb => ?_
  obtain ⟨cdt, hc, hd'⟩ := any_some hh
  obtain ⟨hx', -, hn, -⟩ := I
  refine wpAny_bind (wpAny_pure (wpAny_bind (wpAny_bind (wpAny_loadPart hx' (wpAny_bind ((looks_clsIn X hc) _ _ _ _ (fun _ _ e => e) ?_))))))
  rw [hd']
  refine wpAny_pure (a := some cd) (wpAny_bind (wpAny_pure (wpAny_bind ?_)))
  unfold nsSet
  refine wpAny_bind (wpAny_bind (wpAny_askSetting (wpAny_pure (wpAny_bind (wpAny_mkText (wpAny_bind (wpAny_loadPart D ?_)))))))
  have hl' : (lookIn name (dictOf es k)).isSome = true := by rw [lookIn_dict]; exact hl
  unfold lookIn at hl'
  split at hl'
  · rename_i es₀ n₀ q
    cases q
    have c : (!es.toArray.any (·.key.isStr name) && es.toArray.any (·.refKey)) = false := by
      rw [← Array.any_toList, ← Array.any_toList]
      split at hl'
      · rename_i en he
        rw [List.any_eq_true.mpr ⟨en, List.mem_of_find?_eq_some he, List.find?_some he⟩]; rfl
      · split at hl'
        · cases hl'
        · rename_i z; rw [Bool.not_eq_true] at z; rw [z, Bool.and_false]
    try dsimp only
    rw [aRefKeyMayBeTheName_at, c]
    refine wpAny_updatePart D ?_
    refine wpAny_bind (wpAny_lookBehind D' (pastItsLine_dict (by rw [List.size_toArray, sizeLine_eq]; (first | lia | omega))) ?_)
    exact wpAny_pure (h _ U1 U2)
  · rename_i q
    exact absurd rfl (q _ _)

theorem acc_subTail {value slice : Expr} {i : Value} {Q : Value → Shared → Prop} (F : Fr h₀ L s.heap m) (X₀ : (fr.heap_1 w.params).In h₀) (N : News h₀ L s.heap news) (hx : (x, accObj cd its n) ∈ news)
    (hsl : subscripted slice false (.ref x) i = operate [.ref x, i] (getItem (.ref x) i)) (h : wpAny (model PG w) A (getItem (.ref x) i) Q E s) : wpAny (model PG w) A (subscriptTail value slice (.ref x) i) Q E s := by
  have X := X₀.keeps F.keep
  unfold subscriptTail getitemInPython
  refine wpAny_bind (wpAny_bind (wpAny_bind ((acc_type (N _ hx).1).here ((looks_findIn X (acc_fget w)).here ?_))))
  try dsimp only
  refine wpAny_pure ?_
  rw [hsl]
  refine wpAny_bind (wpAny_operate' (wpAny_mono h (fun v s' z => ?_) fun _ _ z => z))
  exact wpAny_bind (wpAny_letTemporaryGo (wpAny_pure z))

noncomputable abbrev slObj (vl vu : Value) : Obj := { cls := .type "slice", data := .fields #[vl, vu, .none] }
theorem acc_sliceTail {value slice : Expr} {ops : List Value} {vl vu : Value} {lo hi : Option Int} {Q : Value → Shared → Prop} (F : Fr h₀ L s.heap m) (X₀ : (fr.heap_1 w.params).In h₀) (N : News h₀ L s.heap news) (hx : (x, accObj cd its n) ∈ news)
    (pl : IsPart vl lo) (pu : IsPart vu hi) (hz : its.size ≤ 1000) (hsl : subscripted slice false (.ref x) (.ref s.heap.objs.size) = operate ops (getItem (.ref x) (.ref s.heap.objs.size)))
    (h : ∀ l h', Fr h₀ L h' m → News h₀ L h' ((l, listOf (slicePick its lo hi none) 0) :: news) → (∀ p ∈ news, p.1 < l) → Q (.ref l) { s with heap := h' }) :
    wpAny (model PG w) A (subscriptTail value slice (.ref x) (.ref s.heap.objs.size)) Q E { s with heap := s.heap.push (slObj vl vu) } := by
  have N' := N.push F (slObj vl vu)
  have F' := F.push (slObj vl vu)
  have X := X₀.keeps F'.keep
  unfold subscriptTail getitemInPython
  refine wpAny_bind (wpAny_bind (wpAny_bind ((acc_type (N' _ (.tail _ hx)).1).here ((looks_findIn X (acc_fget w)).here ?_))))
  try dsimp only
  refine wpAny_pure ?_
  rw [hsl]
  refine wpAny_bind (wpAny_operate' (get_slice (s := { s with heap := s.heap.push (slObj vl vu) }) F' X₀ N' (.tail _ hx) (.head _) pl pu hz (fun l h' F1 N1 l1 => ?_)))
  exact wpAny_bind (wpAny_letTemporaryGo (wpAny_pure (h l h' F1 (cb_drop N1 (by intro p hp; cases hp with | head => exact .head _ | tail _ hp => exact .tail _ (.tail _ hp))) (fun p hp => l1 p (.tail _ hp)))))
theorem acc_sliceSet {g : Obj → List (Addr × Obj)} {l : Addr} {vl vu : Value} {lo hi : Option Int} {new : Array Value} {k : Nat} {Q : Unit → Shared → Prop} (F : Fr h₀ L s.heap m) (X₀ : (fr.heap_1 w.params).In h₀) (N : News h₀ L s.heap news) (U : UpdF x (accObj cd its n) news g)
    (pl : IsPart vl lo) (pu : IsPart vu hi) (hl : (l, listOf new k) ∈ news) (hz : its.size ≤ 1000) (hz2 : new.size ≤ 1000)
    (h : ∀ n' h', Fr h₀ L h' m → News h₀ L h' (g (accObj cd (putSlice its new lo hi) n')) → Q () { s with heap := h' }) :
    wpAny (model PG w) A (setItem (.ref x) (.ref s.heap.objs.size) (.ref l)) Q E { s with heap := s.heap.push (slObj vl vu) } := by
  have N' := N.push F (slObj vl vu)
  have F' := F.push (slObj vl vu)
  obtain ⟨pre, post, e1, e2, a, b⟩ := id U.split
  have hx : (x, accObj cd its n) ∈ news := by rw [e1]; simp
  have hlt : @LT.lt Nat _ x s.heap.objs.size := Heap.lt_size (N _ hx).1
  refine set_slice (s := { s with heap := s.heap.push (slObj vl vu) }) F' X₀ N' (.tail (Nat.ne_of_gt hlt) U) (.head _) pl pu (.tail _ hl) hz hz2 (fun n' h' F1 N1 => h n' h' F1 fun p hp => N1 p (.tail _ hp))
theorem acc_itemTail {value slice : Expr} {ops : List Value} {k : Int} {u : Tok} {v : Value} {Q : Value → Shared → Prop} (F : Fr h₀ L s.heap m) (X₀ : (fr.heap_1 w.params).In h₀) (N : News h₀ L s.heap news) (hx : (x, accObj cd its n) ∈ news)
    (h0 : 0 ≤ k) (hb : k < 2 ^ 63) (hv : its[k.toNat]? = some v) (hsl : subscripted slice false (.ref x) (.int k u) = operate ops (getItem (.ref x) (.int k u))) (h : Q v s) :
    wpAny (model PG w) A (subscriptTail value slice (.ref x) (.int k u)) Q E s := by
  have X := X₀.keeps F.keep
  unfold subscriptTail getitemInPython
  refine wpAny_bind (wpAny_bind (wpAny_bind ((acc_type (N _ hx).1).here ((looks_findIn X (acc_fget w)).here ?_))))
  try dsimp only
  refine wpAny_pure ?_
  rw [hsl]
  refine wpAny_bind (wpAny_operate' (acc_item X (N _ hx).1 h0 hv hb ?_))
  exact wpAny_bind (wpAny_letTemporaryGo (wpAny_pure h))

theorem putSlice_all (its new : Array Value) : putSlice its new none none = new := by
  have e : sliceBounds none none none its.size = (((0 : Nat) : Int), (its.size : Int), 1) := by simp [sliceBounds]
  unfold putSlice
  rw [e]
  apply Array.ext'
  simp
theorem putSlice_from (its : Array Value) (a : Nat) (ha : a ≤ its.size) : putSlice its #[] (some a) none = (its.toList.take a).toArray := by
  have e : sliceBounds (some (a : Int)) none none its.size = ((a : Int), (its.size : Int), 1) := by
    simp only [sliceBounds, Option.getD_none]
    have h1 : ¬ ((a : Int) < 0) := by (first | lia | omega)
    simp only [h1, if_false, show (1 : Int) > 0 by decide, if_true]
    congr 1
    (first | lia | omega)
  unfold putSlice
  rw [e]
  apply Array.ext'
  simp [Array.toList_extract, List.extract]
  (first | lia | omega)
end
end
section
open PySem PySem.Spec PySem.Calls PySem.W PyProof.Rows
set_option maxRecDepth 100000
set_option maxHeartbeats 0
theorem rows_S2_1 : True := by
  k_with_none
  w_top off
  k_with "k_mem" => (assumption)
  k_with "k_ne" => (first | exact ne_mem1 (by with_reducible assumption) (by with_reducible assumption) | exact ne_mem2 (by with_reducible assumption) (by with_reducible assumption))
  k_with "execs cons" => (first | (k_here; k_gentoks) | ((try (rename Flow → Shared → Prop => qq; clear qq)); (try (rename Value → Shared → Prop => qq; clear qq)); refine wpAny_execs_cons ?_; (try dsimp only); k_fold))
  trivial

theorem rows_S2_2 : True := by
  k_with "k_updF" => (with_reducible assumption)
  k_with "k_inst" => (refine accI_news (by k_asm) (by k_mem) (by k_mem))
  k_with "getAttr ref" => (k_here; k_dflt (refine get_acc (by k_asm) (by k_asm) (by k_asm) (by k_mem) (by k_mem) (by k_is) (by k_is) (by k_is) (by k_get) (by k_handed) ?_; k_whole))
  k_with "getMethod ref" => (k_here; k_dflt (first | ((with_reducible show wpAny _ _ (getMethod (Value.ref _) (PySem.Str.ofString "append") _) _ _ _); refine method_acc_app (by k_asm) (by k_asm) (by k_asm) (by k_mem) (by k_mem) (by k_get) ?_; k_whole) | (refine method_acc_fn (by k_asm) (by k_asm) (by k_asm) (by k_mem) (by k_mem) (by k_is) (by k_is) (by k_get) ?_; k_whole) | ((with_reducible show wpAny _ _ (getMethod (Value.ref _) (PySem.Str.ofString "pop") _) _ _ _); refine sup_pop (by k_asm) (by k_asm) (by k_asm) (by k_mem) (by k_mem) ?_; k_whole; intro q' h' F' N' l1; (try k_lt l1); revert q' h' F' N' l1; intros) | ((with_reducible show wpAny _ _ (getMethod (Value.ref _) (PySem.Str.ofString "__len__") _) _ _ _); refine sup_len (by k_asm) (by k_asm) (by k_asm) (by k_mem) (by k_mem) ?_; k_whole; intro q' h' F' N' l1; (try k_lt l1); revert q' h' F' N' l1; intros) | ((with_reducible show wpAny _ _ (getMethod (Value.ref _) (PySem.Str.ofString "__init__") _) _ _ _); refine sup_init (by k_asm) (by k_asm) (by k_asm) (by k_mem) (by k_mem) ?_; k_whole; intro q' h' F' N' l1; (try k_lt l1); revert q' h' F' N' l1; intros)))
  k_with "call builtin:list.append" => (k_here; k_dflt (refine append_acc (by k_asm) (by k_asm) (by k_asm) (by k_updF) (by first | assumption | omega) ?_; k_whole; intro n' h' F' N'; (try dsimp only at N'); revert n' h' F' N'; intros))
  k_with "callWith ref" => (k_here; k_dflt ((with_reducible show wpAny _ _ (callWith _ (Value.ref _) [] (backTo _ (starEach [] _)) []) _ _ _); refine bm_callWith (by k_asm) (by k_mem) (by first | exact .inl rfl | exact .inr rfl) ?_; k_whole; (try dsimp only [List.nil_append])))
  k_with "call ref" => (k_here; k_dflt (first | (refine bm_call_len (by k_asm) (by k_asm) (by k_asm) (by k_mem) (by k_mem) ?_; k_whole) | (refine bm_call_init (by k_asm) (by k_asm) (by k_asm) (by k_mem) (by k_updF) ?_; k_whole; intro n' h' F' N'; (try dsimp only at N'); revert n' h' F' N'; intros) | (refine bm_call_pop (by k_asm) (by k_asm) (by k_asm) (by k_mem) (by k_updF) (by first | assumption | omega) (by assumption) ?_; k_whole; intro n' h' F' N'; (try dsimp only at N'); revert n' h' F' N'; intros)))
  k_with "wpAt" => ((fail_if_success ks_step "execs cons"); dsimp only; ks_step "execs cons"; refine ks_wpAt_execs_cons ?_)
  k_with "wpAt" => (ks_step "eval Call"; k_dflt (refine ks_wpAt_MethodCall ?_))
  k_with "k_ne" => (first | exact ne_mem1 (by with_reducible assumption) (by with_reducible assumption) | exact ne_mem1 (And.right (by with_reducible assumption)) (by with_reducible assumption) | exact ne_mem1 (And.right (And.right (by with_reducible assumption))) (by with_reducible assumption) | exact ne_mem1 (And.right (And.right (And.right (by with_reducible assumption)))) (by with_reducible assumption) | exact ne_mem1 (And.right (And.right (And.right (And.right (by with_reducible assumption))))) (by with_reducible assumption) | exact ne_mem1 (And.right (And.right (And.right (And.right (And.right (by with_reducible assumption)))))) (by with_reducible assumption) | exact ne_mem1 (And.right (And.right (And.right (And.right (And.right (And.right (by with_reducible assumption))))))) (by with_reducible assumption))
  k_with "subscriptTail" => (k_here; (with_reducible show wpAny _ _ (subscriptTail _ _ (Value.ref _) (Value.int _ _)) _ _ _); k_dflt (refine acc_itemTail (by k_asm) (by k_asm) (by k_asm) (by k_mem) (by first | assumption | omega) (by omega) (by assumption) (by with_unfolding_all rfl) ?_; k_whole))
  k_with "subscriptTail" => (k_here; (with_reducible show wpAny _ _ (subscriptTail _ _ (Value.ref _) (Value.ref _)) _ _ _); k_dflt (refine acc_sliceTail (by k_asm) (by k_asm) (by k_asm) (by k_mem) (by first | exact IsPart.none | exact IsPart.int _ _) (by first | exact IsPart.none | exact IsPart.int _ _) (by first | assumption | omega) (by with_unfolding_all rfl) ?_; k_whole; intro l' h' F' N' l1; (try k_lt l1); revert l' h' F' N' l1; intros))
  k_with "setItem ref" => (k_here; k_dflt (refine acc_sliceSet (by k_asm) (by k_asm) (by k_asm) (by k_updF) (by first | exact IsPart.none | exact IsPart.int _ _) (by first | exact IsPart.none | exact IsPart.int _ _) (by k_mem) (by first | assumption | omega) (by first | assumption | decide | (simp; done) | omega) ?_; k_whole; intro n' h' F' N'; (try dsimp only at N'); revert n' h' F' N'; intros))
  k_with "setAttr ref" => (k_here; k_dflt (refine set_acc (by k_asm) (by k_asm) (by k_asm) (by k_mem) (by k_is) (by k_is) (by k_get) (by k_put) (by k_upd) (by simp) ?_; k_whole; intro h' F' N'; (try dsimp only at N'); revert h' F' N'; intros))
  k_with "execs cons" => (first | (k_here; k_gentoks) | ((try (rename Flow → Shared → Prop => qq; clear qq)); (try (rename Value → Shared → Prop => qq; clear qq)); refine wpAny_execs_cons ?_; (try dsimp only); k_fold))
  trivial
theorem popf_spec : ∀ {w : World} {loose : List Str} {mean : ExcName → Option Value} {mg mb : Str → Option Value} {dp un : Nat} {gd : Option (List Code)} {cn : Str} {cs : Scope} {a : Addr} {ccd : Value} {cl : List (Str × Addr)} {outer : List Env} {A₀ : Around} {base h₀ : Heap} {L : Addr} {m : Str → Option Value} {s : Shared} {Q E : Value → Shared → Prop} {news : List (Addr × Obj)} {g : Obj → List (Addr × Obj)} {ca cd : Nat} {its : Array Value} {n : Nat} {h1 : Int} {x1 x2 : Tok}
  (B : Below A₀ base outer h₀) (F : Fr h₀ L s.heap m) (X : (fr.heap_1 w.params).In h₀) (N : News h₀ L s.heap news) (T : Top topProg loose mean mg mb h₀) (hk : cs.kind = .function) (hdp : dp + 2 < recursionLimit) (hun : un + 24 < cLine) (U : UpdF ca (accObj cd its n) news g) (ha : (ca, accObj cd its n) ∈ news) (hcd : (cd, dictOf [⟨h1, .str (Str.ofString "_initial_size") x1, .int 0 x2⟩] 1) ∈ news) (hz : its.size ≤ 1000) (i : Int) (ki : Tok) (hi : 0 ≤ i) (hret : ∀ ll n₁ k₁ h₁ tk₁, Fr h₀ L h₁ m → News h₀ L h₁ ((ll, listOf (slicePick its (some i) none none) k₁) :: g (accObj cd (putSlice its #[] (some i) none) n₁)) → (∀ p ∈ news, p.1 < ll) → Q (.ref ll) { s with heap := h₁, toks := tk₁ }),
  wpAny (model PySem.Challenge.rw_wu0100_01.row.prog w) (ktrTop dp un gd cn cs L a ccd cl outer) (call (.ref 130) [.ref ca, .int i ki]) Q E s := by
  k_fill
  intro w loose mean mg mb dp un gd cn cs a ccd cl outer A₀ base h₀ L m s Q E news g ca cd its n h1 x1 x2 B F X N T hk hdp hun U ha hcd hz i ki hi hret
  refine wpAny_call ?_
  k_dflt (refine' code_def ?k1 ?k2 ?k3 ?k4 ?k5 ?kA ?kF ?kK ?k6 ?k7 ?k8 ?k9 ?kB ?_ ?c2 ?c3 ?c4 ?c5; (case kA => exact rfl); (case kF => exact rfl); (case kK => first | exact rfl | assumption); (case k1 => k_asm); (case k2 => k_asm); (case k3 => k_asm); (case k4 => k_asm); (case k5 => k_asm); (case k6 => k_is); (case k7 => k_is); (case k8 => ktr_room); (case k9 => first | exact BindsTo.of_eq rfl | exact binds_K (by k_in) rfl (by k_is) rfl rfl rfl); (case c5 => decide); (case kB => exact locs rfl); (case c2 => exact rfl); (case c3 => exact rfl); (case c4 => exact rfl); k_whole; intro g' L' h' FG' F' N' B' X' T'; (try dsimp only); (try k_lift B'); (try k_fold))
  k_steps
  all_goals exact hret _ _ _ _ _ (by k_asm) (cb_drop (by assumption) (by intro p hp; repeat (first | exact hp | apply List.Mem.tail))) (by first | assumption | exact allLt_all _ (by assumption))
theorem reset_none : ∀ {w : World} {loose : List Str} {mean : ExcName → Option Value} {mg mb : Str → Option Value} {dp un : Nat} {gd : Option (List Code)} {cn : Str} {cs : Scope} {a : Addr} {ccd : Value} {cl : List (Str × Addr)} {outer : List Env} {A₀ : Around} {base h₀ : Heap} {L : Addr} {m : Str → Option Value} {s : Shared} {Q E : Value → Shared → Prop} {news : List (Addr × Obj)} {g₂ : Obj → Obj → List (Addr × Obj)} {g : Obj → List (Addr × Obj)} {ca cd : Nat} {its : Array Value} {n : Nat} {h1 : Int} {x1 x2 : Tok}
  (B : Below A₀ base outer h₀) (F : Fr h₀ L s.heap m) (X : (fr.heap_1 w.params).In h₀) (N : News h₀ L s.heap news) (T : Top topProg loose mean mg mb h₀) (hk : cs.kind = .function) (hdp : dp + 2 < recursionLimit) (hun : un + 24 < cLine) (U : UpdF ca (accObj cd its n) news g) (U2 : ∀ o₁, UpdF cd (dictOf [⟨h1, .str (Str.ofString "_initial_size") x1, .int 0 x2⟩] 1) (g o₁) (g₂ o₁)) (ha : (ca, accObj cd its n) ∈ news) (hcd : (cd, dictOf [⟨h1, .str (Str.ofString "_initial_size") x1, .int 0 x2⟩] 1) ∈ news) (hz : its.size ≤ 1000) (hret : ∀ n₁ x₁ h₁ tk₁, Fr h₀ L h₁ m → News h₀ L h₁ (g₂ (accObj cd #[] n₁) (dictOf [⟨h1, .str (Str.ofString "_initial_size") x1, .int 0 x₁⟩] 1)) → Q .none { s with heap := h₁, toks := tk₁ }),
  wpAny (model PySem.Challenge.rw_wu0100_01.row.prog w) (ktrTop dp un gd cn cs L a ccd cl outer) (call (.ref 160) [.ref ca]) Q E s := by
  k_fill
  intro w loose mean mg mb dp un gd cn cs a ccd cl outer A₀ base h₀ L m s Q E news g₂ g ca cd its n h1 x1 x2 B F X N T hk hdp hun U U2 ha hcd hz hret
  refine wpAny_call ?_
  k_dflt (refine' code_def ?k1 ?k2 ?k3 ?k4 ?k5 ?kA ?kF ?kK ?k6 ?k7 ?k8 ?k9 ?kB ?_ ?c2 ?c3 ?c4 ?c5; (case kA => exact rfl); (case kF => exact rfl); (case kK => first | exact rfl | assumption); (case k1 => k_asm); (case k2 => k_asm); (case k3 => k_asm); (case k4 => k_asm); (case k5 => k_asm); (case k6 => k_is); (case k7 => k_is); (case k8 => ktr_room); (case k9 => first | exact BindsTo.of_eq rfl | exact binds_K (by k_in) rfl (by k_is) rfl rfl rfl); (case c5 => decide); (case kB => exact locs rfl); (case c2 => exact rfl); (case c3 => exact rfl); (case c4 => exact rfl); k_whole; intro g' L' h' FG' F' N' B' X' T'; (try dsimp only); (try k_lift B'); (try k_fold))
  k_steps
  (k_dflt (refine' set_acc ?k1 ?k2 ?k3 ?k4 ?k5 ?k6 ?k7 ?k8 ?k9 ?k10 ?_; (case k1 => k_asm); (case k2 => k_asm); (case k3 => k_asm); (case k4 => exact List.Mem.tail _ (updF_mem U)); (case k5 => k_is); (case k6 => k_is); (case k9 => exact Upd.tail (by k_ne) (updF_upd (U2 _))); (case k7 => k_get); (case k8 => k_put); (case k10 => simp); k_whole; intro h' F' N'))
  k_steps
  all_goals (simp only [putSlice_all] at *; exact hret _ _ _ _ (by k_asm) (cb_drop (by assumption) (by intro p hp; repeat (first | exact hp | apply List.Mem.tail))))
theorem reset_list : ∀ {w : World} {loose : List Str} {mean : ExcName → Option Value} {mg mb : Str → Option Value} {dp un : Nat} {gd : Option (List Code)} {cn : Str} {cs : Scope} {a : Addr} {ccd : Value} {cl : List (Str × Addr)} {outer : List Env} {A₀ : Around} {base h₀ : Heap} {L : Addr} {m : Str → Option Value} {s : Shared} {Q E : Value → Shared → Prop} {news : List (Addr × Obj)} {g₂ : Obj → Obj → List (Addr × Obj)} {g : Obj → List (Addr × Obj)} {ca cd : Nat} {its : Array Value} {n : Nat} {h1 : Int} {x1 x2 : Tok}
  (B : Below A₀ base outer h₀) (F : Fr h₀ L s.heap m) (X : (fr.heap_1 w.params).In h₀) (N : News h₀ L s.heap news) (T : Top topProg loose mean mg mb h₀) (hk : cs.kind = .function) (hdp : dp + 2 < recursionLimit) (hun : un + 24 < cLine) (U : UpdF ca (accObj cd its n) news g) (U2 : ∀ o₁, UpdF cd (dictOf [⟨h1, .str (Str.ofString "_initial_size") x1, .int 0 x2⟩] 1) (g o₁) (g₂ o₁)) (ha : (ca, accObj cd its n) ∈ news) (hcd : (cd, dictOf [⟨h1, .str (Str.ofString "_initial_size") x1, .int 0 x2⟩] 1) ∈ news) (hz : its.size ≤ 1000) (l : Addr) (new : Array Value) (k : Nat) (hl : (l, listOf new k) ∈ news) (hz2 : new.size ≤ 1000) (hret : ∀ n₁ x₁ h₁ tk₁, Fr h₀ L h₁ m → News h₀ L h₁ (g₂ (accObj cd new n₁) (dictOf [⟨h1, .str (Str.ofString "_initial_size") x1, .int 0 x₁⟩] 1)) → Q .none { s with heap := h₁, toks := tk₁ }),
  wpAny (model PySem.Challenge.rw_wu0100_01.row.prog w) (ktrTop dp un gd cn cs L a ccd cl outer) (call (.ref 160) [.ref ca, .ref l]) Q E s := by
  k_fill
  intro w loose mean mg mb dp un gd cn cs a ccd cl outer A₀ base h₀ L m s Q E news g₂ g ca cd its n h1 x1 x2 B F X N T hk hdp hun U U2 ha hcd hz l new k hl hz2 hret
  refine wpAny_call ?_
  k_dflt (refine' code_def ?k1 ?k2 ?k3 ?k4 ?k5 ?kA ?kF ?kK ?k6 ?k7 ?k8 ?k9 ?kB ?_ ?c2 ?c3 ?c4 ?c5; (case kA => exact rfl); (case kF => exact rfl); (case kK => first | exact rfl | assumption); (case k1 => k_asm); (case k2 => k_asm); (case k3 => k_asm); (case k4 => k_asm); (case k5 => k_asm); (case k6 => k_is); (case k7 => k_is); (case k8 => ktr_room); (case k9 => first | exact BindsTo.of_eq rfl | exact binds_K (by k_in) rfl (by k_is) rfl rfl rfl); (case c5 => decide); (case kB => exact locs rfl); (case c2 => exact rfl); (case c3 => exact rfl); (case c4 => exact rfl); k_whole; intro g' L' h' FG' F' N' B' X' T'; (try dsimp only); (try k_lift B'); (try k_fold))
  k_steps
  (k_dflt (refine' set_acc ?k1 ?k2 ?k3 ?k4 ?k5 ?k6 ?k7 ?k8 ?k9 ?k10 ?_; (case k1 => k_asm); (case k2 => k_asm); (case k3 => k_asm); (case k4 => exact updF_mem U); (case k5 => k_is); (case k6 => k_is); (case k9 => exact updF_upd (U2 _)); (case k7 => k_get); (case k8 => k_put); (case k10 => simp); k_whole; intro h' F' N'))
  k_steps
  all_goals (simp only [putSlice_all] at *; exact hret _ _ _ _ (by k_asm) (cb_drop (by assumption) (by intro p hp; repeat (first | exact hp | apply List.Mem.tail))))
end
section
open PySem PySem.Spec PySem.Calls PySem.W PyProof.Rows
set_option maxRecDepth 100000
set_option maxHeartbeats 0
section
variable {w : World} {A : Around} {E : Value → Shared → Prop} {s : Shared} {x cd : Addr} {its : Array Value} {n : Nat}
noncomputable def SeqAt (h : Heap) (l : Addr) (items : Array Value) : Prop := ∃ o c, h.get? l = some o ∧ o.data = .seq items c
theorem SeqAt.keep {h h' : Heap} {l : Addr} {items} (x : SeqAt h l items) (hk : ∀ o, h.get? l = some o → h'.get? l = some o) : SeqAt h' l items :=
  let ⟨o, c, a, b⟩ := x; ⟨o, c, hk o a, b⟩
theorem next_item {it l : Addr} {i : Nat} {items : Array Value} {v : Value} {Q : Option Value → Shared → Prop} (hit : s.heap.IsListIter it l i) (hl : SeqAt s.heap l items) (hx : items[i]? = some v)
    (hQ : ∀ h', h'.IsListIter it l (i + 1) → Heap.SameBut it s.heap h' → Q (some v) { s with heap := h' }) : wpAny (model PG w) A (pyNext (.ref it)) Q E s := by
  obtain ⟨o, ho, hc, hd⟩ := id hit
  obtain ⟨ol, nl, hol, hdl⟩ := hl
  unfold pyNext
  refine wpAny_bind (wpAny_attempt (wpAny_callSpecial?_slot (name := Str.ofString "__next__") hit.typeIs slot_listiter_next
    (wpAny_call_entry slot_listiter_next hit.typeIs entry_listiter_next ?_ (args_listiter_next _))))
  show wpAny _ _ (field (.ref it) 0 >>= _) _ _ s
  refine wpAny_bind (wpAny_field ho hd (x := .ref l) rfl ?_)
  show wpAny _ _ (if (Value.ref l == Value.none) = true then _ else _) _ _ s
  rw [if_neg (show ¬ ((Value.ref l == Value.none) = true) from Bool.false_ne_true)]
  show wpAny _ _ (field (.ref it) 1 >>= _) _ _ s
  refine wpAny_bind (wpAny_field ho hd (x := .int i 0) rfl ?_)
  show wpAny _ _ (seqItems? (.ref l) >>= _) _ _ s
  refine wpAny_bind (wpAny_seqItems hol hdl ?_)
  simp only [Int.toNat_natCast, hx]
  refine wpAny_bind (wpAny_setField ho hd (by simp) (wpAny_pure ⟨v, rfl, wpAny_pure (hQ _ ?_ (Heap.SameBut.update ..))⟩))
  exact ⟨_, Heap.get?_update_self _ ho (Obj.isFreed_of_fields (Obj.data_mapFields hd _)), (Obj.cls_mapFields ..).trans hc, by
    rw [Obj.data_mapFields hd]; simp [rawInt]⟩
theorem next_end {it l : Addr} {i : Nat} {items : Array Value} {Q : Option Value → Shared → Prop} (hh : A.handled = none) (hit : s.heap.IsListIter it l i) (hl : SeqAt s.heap l items) (hx : items[i]? = none)
    (hQ : ∀ h', Heap.ExtBut it s.heap h' → Q none { s with heap := h' }) : wpAny (model PG w) A (pyNext (.ref it)) Q E s := by
  obtain ⟨o, ho, hc, hd⟩ := id hit
  obtain ⟨ol, nl, hol, hdl⟩ := hl
  unfold pyNext
  refine wpAny_bind (wpAny_attempt (wpAny_callSpecial?_slot (name := Str.ofString "__next__") hit.typeIs slot_listiter_next
    (wpAny_call_entry slot_listiter_next hit.typeIs entry_listiter_next ?_ (args_listiter_next _))))
  show wpAny _ _ (field (.ref it) 0 >>= _) _ _ s
  refine wpAny_bind (wpAny_field ho hd (x := .ref l) rfl ?_)
  show wpAny _ _ (if (Value.ref l == Value.none) = true then _ else _) _ _ s
  rw [if_neg (show ¬ ((Value.ref l == Value.none) = true) from Bool.false_ne_true)]
  show wpAny _ _ (field (.ref it) 1 >>= _) _ _ s
  refine wpAny_bind (wpAny_field ho hd (x := .int i 0) rfl ?_)
  show wpAny _ _ (seqItems? (.ref l) >>= _) _ _ s
  refine wpAny_bind (wpAny_seqItems hol hdl ?_)
  simp only [Int.toNat_natCast, hx]
  refine wpAny_bind (wpAny_rule (wpAny_bind (wpAny_setField ho hd (by simp) ?_)))
  show wpAny _ _ (newExc (.type "StopIteration") [] >>= _) _ _ _
  refine wpAny_bind ?_
  simp only [newExc, newTuple]
  refine wpAny_bind (wpAny_newObj_type ?_ (by size_fits))
  refine wpAny_bind (m := firstArgMember _ _) (wpAny_of_eq (a := Value.none) (by first | rfl | (simp only [firstArgMember]; rfl)) ?_)
  refine wpAny_newObj_type ?_ (by size_fits)
  simp only [raiseNew]
  refine wpAny_bind (wpAny_handled ?_)
  rw [show A.in1.handled = none from hh]
  refine wpAny_bind (wpAny_pure (wpAny_throw ?_))
  refine wpAny_bind (wpAny_isInstance (T := "StopIteration") (b := true) ⟨_, Heap.get?_push_size _ rfl, rfl⟩ isSubtype_stop ?_)
  exact wpAny_pure (hQ _ (((Heap.SameBut.update ..).extBut.push _).push _))

theorem walks_seq {A : Around} (hh : A.handled = none) (I ax : Addr) (hne : ax ≠ I) (items : Array Value) (Ts : Nat → Addr) (vals : Nat → Array Value)
    (hit : ∀ j, j < items.size → items[j]? = some (.ref (Ts j))) (hTI : ∀ j, j < items.size → Ts j ≠ I) :
    WalksU PG w A I (I :: ax :: (List.range items.size).map Ts) [I] items.size (fun j v => j < items.size ∧ v = vals j)
      (fun j h => h.IsListIter I ax j ∧ SeqAt h ax items ∧ ∀ k, k < items.size → h.IsTuple (Ts k) (vals k))
      (fun j T h => (j < items.size ∧ T = Ts j) ∧ h.IsListIter I ax (j + 1) ∧ SeqAt h ax items ∧ ∀ k, k < items.size → h.IsTuple (Ts k) (vals k)) where
  sub := fun b hb => by simp at hb; simp [hb]
  frame := fun _ _ _ st hk => ⟨st.1.at fun o e => hk I (by simp) o e, st.2.1.keep fun o e => hk ax (by simp) o e,
    fun k hk' => (st.2.2 k hk').at fun o e => hk (Ts k) (List.mem_cons_of_mem _ (List.mem_cons_of_mem _ (List.mem_map.mpr ⟨k, List.mem_range.mpr hk', rfl⟩))) o e⟩
  item := fun i s Q E hi st hQ => by
    refine next_item st.1 st.2.1 (v := .ref (Ts i)) (hit i hi) fun h' hit' hs' => ?_
    have tup : ∀ k, k < items.size → h'.IsTuple (Ts k) (vals k) := fun k hk' => (st.2.2 k hk').extBut hs'.extBut (hTI k hk')
    exact hQ (Ts i) (vals i) h' s.toks ⟨hi, rfl⟩ (tup i hi) ⟨⟨hi, rfl⟩, hit', st.2.1.keep fun o e => hs'.extBut ax o hne e, tup⟩ fun b o hb e => hs'.extBut b o (fun h => hb (by simp [h])) e
  go := fun _ _ _ _ _ s Q _ hm hQ => wpAny_letOwnedTupleGo_listiter hm.2.1 (hQ s.heap hm.2 fun _ _ _ e => e)
  apart := fun j T _ hm hmem => by
    rcases List.mem_cons.mp hmem with e | e
    · exact hTI j hm.1.1 (hm.1.2 ▸ e)
    · cases e
  done := fun s Q E st hQ => next_end hh st.1 st.2.1 (by simp) fun h' he' => hQ h' s.toks fun b o hb e => he' b o (fun h => hb (by simp [h])) e
  self := fun _ _ _ _ st hQ => wpAny_pyIter_listiter st.1 hQ

theorem acc_pyIter {Q : Value → Shared → Prop} (X : (fr.heap_1 w.params).In s.heap) (hx : s.heap.get? x = some (accObj cd its n))
    (h : Q (.ref s.heap.objs.size) { s with heap := s.heap.push { cls := .type "list_iterator", data := .fields #[.ref x, .int 0 0] } }) : wpAny (model PG w) A (pyIter (.ref x)) Q E s := by
  have fin : wpAny (model PG w) A (call (.builtin "list.__iter__") [.ref x] >>= fun v => pure (some v))
      (fun r s' => r = some (.ref s.heap.objs.size) ∧ s' = { s with heap := s.heap.push { cls := .type "list_iterator", data := .fields #[.ref x, .int 0 0] } }) E s :=
    wpAny_bind (acc_iter X hx (wpAny_pure ⟨rfl, rfl⟩))
  have hb : ∀ self, bindSpecial (.builtin "list.__iter__") self = pure (.builtin "list.__iter__", [self]) := fun self => slot_list_iter.bind self
  have one : ∀ refuse : Sem Value, wpAny (model PG w) A (callSpecialIfBoundUnlessNone? (.ref x) "__iter__" refuse)
      (fun r s' => r = some (.ref s.heap.objs.size) ∧ s' = { s with heap := s.heap.push { cls := .type "list_iterator", data := .fields #[.ref x, .int 0 0] } }) E s := by
    intro refuse
    simp only [callSpecialIfBoundUnlessNone?, bindSpecialIfBound?]
    refine wpAny_holding (wpAny_bind (wpAny_bind (wpAny_bind ((acc_type hx).here ((looks_findIn X (acc_fiter w)).here ?_)))))
    try dsimp only
    simp only [hb]
    refine wpAny_bind (wpAny_askSetting (wpAny_ite ?_))
    have fin2 : wpAny (model PG w) A (if (Value.builtin "list.__iter__" == Value.none) = true then (refuse >>= fun v => pure (some v)) else (call (.builtin "list.__iter__") [.ref x] >>= fun v => pure (some v)))
        (fun r s' => r = some (.ref s.heap.objs.size) ∧ s' = { s with heap := s.heap.push { cls := .type "list_iterator", data := .fields #[.ref x, .int 0 0] } }) E s := by
      simp only [builtin_beq_none, Bool.false_eq_true, if_false]
      exact fin
    split
    · exact wpAny_bind (wpAny_pure (wpAny_pure fin2))
    · exact wpAny_tryCatch (wpAny_bind (wpAny_pure (wpAny_pure fin2)))
  unfold pyIter
  refine wpAny_bind (wpAny_bind ((acc_type hx).here ((looks_findIn X (acc_fiter w)).here ?_)))
  show wpAny (model PG w) A (callSpecialIfBoundUnlessNone? (.ref x) "__iter__" _ >>= _) Q E s
  refine wpAny_bind (wpAny_mono (one _) (fun r s' hr => ?_) fun _ _ z => z)
  obtain ⟨rfl, rfl⟩ := hr
  exact wpAny_bind (wpAny_specialOf (T := "list_iterator") ⟨_, Heap.get?_push_size _ rfl, rfl⟩ slot_listiter_next.lookup (wpAny_pure h))

theorem sum_start {x : Value} {t₀ : Tok} {Q : Value → Shared → Prop}
    (h : wpAny (model PG w) A.in1 (pyIter x) (fun it s₂ => ∃ I fp wr G n P St val, it = .ref I ∧ WalksS PG w A.in1 I fp wr G n P St ∧ St 0 s₂ ∧ (∀ b ∈ fp, b < s₂.heap.objs.size) ∧
      (∀ i v, P i v → ∃ t, v = .int (val i) t) ∧ (∀ j, j < n → InLong (val j) ∧ InLong (preSum val (j + 1))) ∧
      ∀ s' t', Moved wr G s₂ s' → Q (.int (preSum val n) t') s') E s) :
    wpAny (model PG w) A (call (.builtin "sum") [x, .int 0 t₀]) Q E s := by
  refine call_function_tree F.kind_sum F.plain_sum F.entry_sum (by unfold argsOk; kernel_rfl) ?_
  unfold Builtin.«sum»
  simp only [List.length_cons, List.length_nil]
  rw [if_neg (by decide)]
  refine wpAny_bind (wpAny_of_eq (show Builtin.Builtins.bindParams "sum" ["start"] 0 ⟨[.int 0 t₀], []⟩ = pure [some (.int 0 t₀)] from rfl) ?_)
  refine wpAny_bind (wpAny_mono h (fun it s₂ h₂ => ?_) fun _ _ e => e)
  obtain ⟨I, fp, wr, G, n, P, St, val, rfl, W, hst, hfp, hval, hfit, hQ⟩ := h₂
  try dsimp only
  split
  case isFalse hf => exact absurd (by decide) hf
  refine wpAny_bind (wpAny_rule ?_)
  refine wpAny_bind (wpAny_mkInt ?_)
  refine wpAny_bind (wpAny_pure ?_)
  simp only [List.forIn_cons, List.forIn_nil]
  refine wpAny_bind (wpAny_bind (wpAny_bind (wpAny_isInstance (T := "int") (b := false) (typeIs_int _ _ _) PySem.sub_int_str ?_)))
  simp only [Bool.false_eq_true, if_false]
  refine wpAny_pure (wpAny_bind (wpAny_bind (wpAny_isInstance (T := "int") (b := false) (typeIs_int _ _ _) PySem.sub_int_bytes ?_)))
  simp only [Bool.false_eq_true, if_false]
  refine wpAny_pure (wpAny_bind (wpAny_bind (wpAny_isInstance (T := "int") (b := false) (typeIs_int _ _ _) PySem.sub_int_bytearray ?_)))
  simp only [Bool.false_eq_true, if_false]
  refine wpAny_pure (wpAny_pure ?_)
  refine wpAny_bind (wpAny_newObj_type ?_)
  have hSf : s₂.heap.objs.size ∉ fp := fun hm => Nat.lt_irrefl _ (hfp _ hm)
  refine wpAny_pure ⟨plainId_quiet F.plain_sum_loop _, codeAny_sum_loopS W val hval hfit s₂.heap.objs.size hSf n 0 _ s₂.toks 0 rfl (Nat.zero_le _)
    (W.frame 0 s₂ _ _ hst (by first | exact Nat.le_refl _ | exact Nat.le_succ _ | omega) fun b _ o e => Heap.get?_push_of_some _ e) (Heap.get?_push_size _ rfl) fun s' t' hm => ?_⟩
  exact hQ s' t' (hm.drop_new (by first | exact Nat.le_refl _ | exact Nat.le_succ _ | omega))
end
end
section
open PySem PySem.Spec PySem.Calls PySem.W PyProof.Rows
set_option maxRecDepth 100000
set_option maxHeartbeats 0
noncomputable abbrev tableObj (ps : Array Value) : Obj := { cls := .none, data := .fields ps }
noncomputable def TabOk (pos : Pos) (ps : Array Value) : Prop := ps = #[] ∨ ∃ c', ps = #[rawInt pos.line, rawInt pos.col, .ref c']
noncomputable def CodeIn (h : Heap) (c P : Addr) : Prop := ∃ o vs file tf flags tg inF text tt, h.get? c = some o ∧ o.cls = .type "code" ∧ o.data = .fields vs ∧ vs[11]? = some (.ref P) ∧ vs.getD 11 .none = .ref P ∧ vs.getD 18 .none = .str file tf ∧
    vs.getD 7 .none = .int flags tg ∧ vs.getD 9 .none = .bool inF ∧ vs.getD 10 .none = .int text tt
theorem passing_all (n : Nat) : passing (fun _ => true) n 0 = List.range n := by unfold passing; simp
theorem tab_triples {pos ps} (h : TabOk pos ps) : TriplesOk ps.toList := by
  rcases h with rfl | ⟨c', rfl⟩ <;> simp [TriplesOk, rawInt]
theorem tab_cases {pos ps} (h : TabOk pos ps) : (ps = #[] ∧ codeAmong pos ps.toList = none) ∨ ∃ c', codeAmong pos ps.toList = some (.ref c') := by
  rcases h with rfl | ⟨c', rfl⟩
  · exact .inl ⟨rfl, rfl⟩
  · exact .inr ⟨c', by simp [codeAmong, rawInt]⟩
theorem news_table {h₀ h h' : Heap} {L P : Addr} {o o' : Obj} {news : List (Addr × Obj)} {g : Obj → List (Addr × Obj)} (N : News h₀ L h news) (U : UpdF P o news g) (hk : ∀ b o, b ≠ P → h.get? b = some o → h'.get? b = some o)
    (hP : h'.get? P = some o') : News h₀ L h' (g o') := by
  have hP0 := N _ (updF_old U)
  obtain ⟨pre, post, rfl, hg, h1, h2⟩ := U.split
  rw [hg]
  intro p hp
  rcases List.mem_append.mp hp with h | h
  · have := N p (List.mem_append_left _ h)
    exact ⟨hk _ _ (h1 p h) this.1, this.2⟩
  · rcases List.mem_cons.mp h with rfl | h
    · exact ⟨hP, hP0.2⟩
    · have := N p (List.mem_append_right _ (.tail _ h))
      exact ⟨hk _ _ (h2 p h) this.1, this.2⟩
theorem fr_table {h₀ h h' : Heap} {L P : Addr} {m} (F : Fr h₀ L h m) (hk : ∀ b o, b ≠ P → h.get? b = some o → h'.get? b = some o) (hL : P ≠ L) (hP : h₀.get? P = none) : Fr h₀ L h' m :=
  ⟨F.ns.at fun o e => hk L o (Ne.symm hL) e, fun b o e => hk b o (fun z => by rw [z, hP] at e; cases e) (F.keep b o e), F.above⟩
section
variable {w : World} {A : Around} {E : Value → Shared → Prop} {s : Shared} {x cd : Addr} {its : Array Value} {n : Nat} {h₀ : Heap} {L P c : Addr} {m mg : Str → Option Value} {news : List (Addr × Obj)} {g : Obj → List (Addr × Obj)} {bm : Addr} {ob : Obj} {ps : Array Value}
theorem walksS_mono {I : Addr} {fp wr : List Addr} {G : Array GenState → Array GenState → Prop} {k : Nat} {P P' : Nat → Value → Prop} {St : Nat → Shared → Prop} (W : WalksS PG w A I fp wr G k P St) (h : ∀ j v, P j v → P' j v) : WalksS PG w A I fp wr G k P' St :=
  { sub := W.sub, grefl := W.grefl, gtrans := W.gtrans, frame := W.frame, done := W.done, self := W.self, item := fun i s Q E hi st hQ => W.item i s Q E hi st fun v s' hp => hQ v s' (h _ _ hp) }
theorem gen_acc {env : Env} {elt iter : Expr} {xa xb : Str} {pa pb pt : Pos} {kt : Nat} {scope : Scope} {cl : List (Str × Addr)} {pos : Pos} {Q : Value → Shared → Prop} {Ts : Nat → Addr} {va vb : Nat → Value} {Fv : Nat → Value → Prop}
    (Fh : Fr h₀ L s.heap m) (X₀ : (fr.heap_1 w.params).In h₀) (N : News h₀ L s.heap news) (U : UpdF P (tableObj ps) news g) (G : AllBare s.gens) (lim : h₀.NoLimit) (M : BMod h₀ env.globals mg bm ob)
    (hcode : env.code = .ref c) (hcin : CodeIn h₀ c P) (hps : TabOk pos ps) (hx : (x, accObj cd its n) ∈ news) (hit : ∀ j, j < its.size → its[j]? = some (.ref (Ts j)))
    (ht : ∀ j, j < its.size → s.heap.IsTuple (Ts j) #[va j, vb j])
    (hh : A.handled = none) (hco : scope.isCoroutine = false) (hclos : closureFor scope env = pure cl) (hcell : ∀ y ∈ scope.names, y.2 ≠ .cell) (h0 : scope.names.lookup (".0" : Str) = some NameKind.local)
    (hxa : scope.names.lookup xa = some .local) (hxb : scope.names.lookup xb = some .local) (hab : xa ≠ xb) (hkind : scope.kind = .function) (hroom : A.depth < recursionLimit)
    (hs : ∀ x, genFold iter env x = pure x)
    (hiter : ∀ Q : Value → Shared → Prop, Q (.ref x) s → wpAny (model PG w) A (eval iter env) Q E s)
    (hel : ∀ (c' C : Addr) (A' : Around) (E' : Value → Shared → Prop) (j : Nat) (t : Shared) (m₂ : Str → Option Value), A'.handled = none → A'.depth ≤ A.depth + 1 → A'.units ≤ A.units + 8 → j < its.size → Fr h₀ C t.heap m₂ → m₂ xa = some (va j) → m₂ xb = some (vb j) →
      wpAny (model PG w) A' (eval elt (genEnv scope cl C (.ref c') builtinsNs env)) (fun y s₃ => Fv j y ∧ Keeps t s₃) E' t)
    (hQ : ∀ ps' a s₅, TabOk pos ps' → Fr h₀ L s₅.heap m → News h₀ L s₅.heap (g (tableObj ps')) → AllBare s₅.gens → s₅.os = s.os → s₅.drawn = s.drawn → (∀ p ∈ g (tableObj ps'), p.1 < s.heap.objs.size) →
      Gen PG w A (s.heap.objs.size - 1) a its.size Fv s₅ → Q (.ref a) s₅) :
    wpAny (model PG w) A (eval (.GeneratorExp elt [⟨.Tuple [.Name xa pa, .Name xb pb] kt pt, iter, [], 0⟩] scope pos) env) Q E s := by
  have hP0 := N _ (updF_old U)
  have hX : s.heap.get? x = some (accObj cd its n) := (N _ hx).1
  have hxlt : x < s.heap.objs.size := Heap.lt_size hX
  have hPlt : P < s.heap.objs.size := Heap.lt_size hP0.1
  have hLlt : L < s.heap.objs.size := Fh.ns.lt
  have hTlt : ∀ j, j < its.size → Ts j < s.heap.objs.size := fun j hj => by obtain ⟨_, e, _⟩ := ht j hj; exact Heap.lt_size e
  have hxP : x ≠ P := fun e => by rw [e, hP0.1] at hX; cases hX
  have hTP : ∀ j, j < its.size → Ts j ≠ P := fun j hj e => by
    obtain ⟨o, ho, hc, _⟩ := ht j hj
    rw [e, hP0.1] at ho; cases ho; exact absurd hc (by simp)
  have hlt : ∀ ps', ∀ p ∈ g (tableObj ps'), p.1 < s.heap.objs.size := by
    intro ps' p hp
    obtain ⟨pre, post, e, hg, h1, h2⟩ := U.split
    rw [hg] at hp
    rcases List.mem_append.mp hp with h | h
    · exact Heap.lt_size (N p (by rw [e]; exact List.mem_append_left _ h)).1
    · rcases List.mem_cons.mp h with rfl | h
      · exact hPlt
      · exact Heap.lt_size (N p (by rw [e]; exact List.mem_append_right _ (.tail _ h))).1
  refine wpAny_GeneratorExp_walksQTD hh hco hclos hcell h0 hxa hxb hab hkind hroom (hiter _ (acc_pyIter (X₀.keeps Fh.keep) hX ?_)) hs
  generalize hs2 : ({ s with heap := s.heap.push { cls := .type "list_iterator", data := .fields #[.ref x, .int 0 0] } } : Shared) = s₂
  have e2 : s₂.heap = s.heap.push { cls := .type "list_iterator", data := .fields #[.ref x, .int 0 0] } := by rw [← hs2]
  have g2 : s₂.gens = s.gens := by rw [← hs2]
  have d2 : s₂.drawn = s.drawn := by rw [← hs2]
  have o2 : s₂.os = s.os := by rw [← hs2]
  have k2 : ∀ b o, s.heap.get? b = some o → s₂.heap.get? b = some o := fun b o e => by rw [e2]; exact Heap.get?_push_of_some _ e
  have sz2 : s₂.heap.objs.size = s.heap.objs.size + 1 := by rw [e2, Heap.size_push]
  have lim2 : s₂.heap.NoLimit := lim.keeps fun b o e => k2 b o (Fh.keep b o e)
  refine ⟨lim2, ?_⟩
  have hI : s₂.heap.IsListIter s.heap.objs.size x 0 := by rw [e2]; exact ⟨_, Heap.get?_push_size _ rfl, rfl, rfl⟩
  obtain ⟨co, vs, file, tf, flags, tg, inF, text, tt, hc1, hc2, hc3, hc4, hc5, hc6, hc7, hc8, hc9⟩ := hcin
  have hcs : s₂.heap.get? c = some co := k2 _ _ (Fh.keep _ _ hc1)
  have hcP : c ≠ P := fun e => by rw [e, hP0.2.2] at hc1; cases hc1
  have hok : s₂.heap.IsCode c P ps := ⟨co, vs, file, tf, flags, tg, inF, text, tt, _, hcs, hc3, hc5, hc6, hc7, hc8, hc9, k2 _ _ hP0.1, rfl, tab_triples hps, hcP⟩
  have htab : s₂.heap.TableAt c P ps := ⟨⟨co, vs, hcs, hc2, hc3, hc4⟩, k2 _ _ hP0.1⟩
  have main : ∀ (c' : Addr) (h₃ : Heap) (tk₃ : Nat) (ps' : Array Value), TabOk pos ps' → (∀ b o, b ≠ P → s₂.heap.get? b = some o → h₃.get? b = some o) → s₂.heap.objs.size ≤ h₃.objs.size → h₃.get? P = some (tableObj ps') →
      wpAny (model PG w) A (builtinsFor env.globals env.builtins) (fun bi s₄ =>
        ∃ I fp wr n₀ Pt St₀ Mid pz F, Value.ref s.heap.objs.size = .ref I ∧ (∀ A' : Around, A'.handled = none → WalksU PG w A' I fp wr n₀ Pt St₀ Mid) ∧ (∀ i vals, Pt i vals → ∃ va vb, vals = #[va, vb]) ∧ St₀ 0 s₄.heap ∧ (∀ b ∈ fp, b < s₄.heap.objs.size) ∧ s₄.heap.NoLimit ∧ cStatics ∉ wr ∧
          (∀ href : Heap, (∀ b o, s₄.heap.get? b = some o → href.get? b = some o) →
            QuietGenTD PG w (genEnv scope cl s₄.heap.objs.size (.ref c') bi env) xa xb [] elt (List.range s₄.heap.objs.size) wr Pt pz F href (A.depth + 1) (A.units + 8)) ∧
          (∀ a h₅ tk gs, gs.bare = true → s₄.heap.objs.size < a → h₅.objs.size = a + 1 → (∀ b o, s₄.heap.get? b = some o → h₅.get? b = some o) →
            WalksS PG w A.in4 a (a :: s₄.heap.objs.size :: List.range s₄.heap.objs.size) (s₄.heap.objs.size :: wr) (GenOnlyQ s₄.gens.size) (passing pz n₀ 0).length
              (fun j y => ∃ i, (passing pz n₀ 0)[j]? = some i ∧ F i y) (GenAt PG w A.in4 a s₄.gens.size s₄.heap.objs.size (List.range s₄.heap.objs.size) wr pz n₀ F) →
            GenAt PG w A.in4 a s₄.gens.size s₄.heap.objs.size (List.range s₄.heap.objs.size) wr pz n₀ F 0 { s₄ with gens := s₄.gens.push gs, toks := tk, heap := h₅ } →
            Q (.ref a) { s₄ with gens := s₄.gens.push gs, toks := tk, heap := h₅ })) E { s₂ with heap := h₃, toks := tk₃ } := by
    intro c' h₃ tk₃ ps' hps' hx₃ hsz₃ hP₃
    have hS : @LT.lt Nat _ s.heap.objs.size h₃.objs.size := by omega
    have k3 : ∀ b o, b ≠ P → s.heap.get? b = some o → h₃.get? b = some o := fun b o hb e => hx₃ b o hb (k2 b o e)
    have F₃ : Fr h₀ L h₃ m := fr_table Fh k3 hP0.2.1 hP0.2.2
    have N₃ : News h₀ L h₃ (g (tableObj ps')) := news_table N U k3 hP₃
    have M₃ : BMod h₃ env.globals mg bm ob := M.keeps F₃.keep
    refine wpAny_builtinsFor M₃.ns M₃.name M₃.ne M₃.obj M₃.cls M₃.dict M₃.data ?_
    refine ⟨s.heap.objs.size, _, _, its.size, _, _, _, (fun _ => true), Fv, rfl,
      (fun A' hA => walks_seq hA s.heap.objs.size x (Nat.ne_of_lt hxlt) its Ts (fun j => #[va j, vb j]) hit fun j hj => Nat.ne_of_lt (hTlt j hj)), (fun i vals hv => ⟨_, _, hv.2⟩), ?_, ?_, ?_, ?_, ?_, ?_⟩
    · refine ⟨hI.at fun o e => hx₃ _ _ (fun z => absurd (z ▸ hPlt) (Nat.lt_irrefl _)) e, ⟨_, n, k3 x _ hxP hX, rfl⟩, fun k hk => (ht k hk).at fun o e => k3 _ _ (hTP k hk) e⟩
    · intro b hb
      show b < h₃.objs.size
      rcases List.mem_cons.mp hb with rfl | hb
      · exact hS
      · rcases List.mem_cons.mp hb with rfl | hb
        · exact Nat.lt_trans hxlt hS
        · obtain ⟨k, hk, rfl⟩ := List.mem_map.mp hb
          exact Nat.lt_trans (hTlt k (List.mem_range.mp hk)) hS
    · exact lim.keeps F₃.keep
    · intro hm
      have hc : cStatics < s.heap.objs.size := let ⟨_, hn, _⟩ := (lim.keeps Fh.keep); hn.lt
      rcases List.mem_cons.mp hm with e | hb
      · exact absurd (e ▸ hc) (Nat.lt_irrefl _)
      · cases hb
    · intro href hhref
      have inB : ∀ (t : Shared) m₂, t.heap.Ns h₃.objs.size m₂ → (∀ b ∈ List.range h₃.objs.size, b ∉ [s.heap.objs.size] → ∀ o, href.get? b = some o → t.heap.get? b = some o) → Fr h₀ h₃.objs.size t.heap m₂ := fun t m₂ hn hkp =>
        ⟨hn, fun b o e => hkp b (List.mem_range.mpr (Heap.lt_size (F₃.keep b o e))) (fun hm => by
            have h1 : b < h₀.objs.size := Heap.lt_size e
            have h2 := F₃.above
            rcases List.mem_cons.mp hm with rfl | hm
            · exact Nat.lt_irrefl _ (Nat.lt_trans (Nat.lt_of_lt_of_le h1 h2) hLlt)
            · cases hm) o (hhref b o (F₃.keep b o e)), by
          exact Nat.le_of_lt (Nat.lt_of_le_of_lt F₃.above F₃.ns.lt)⟩
      exact ⟨fun A' E' i va' vb' t m₂ hA hD hU hP hn hma hmb hkp => wpAny_pure ⟨rfl, t.heap, t.toks, rfl, fun _ _ e => e⟩,
        fun A' E' i va' vb' t m₂ hA hD hU hP hp hn hma hmb hkp => by
          obtain ⟨hi, e⟩ := hP
          obtain ⟨e1, e2⟩ : va' = va i ∧ vb' = vb i := by simpa using congrArg Array.toList e
          subst e1 e2
          exact hel c' _ A' E' i t m₂ hA hD hU hi (inB t m₂ hn hkp) hma hmb⟩
    · intro a h₅ tk gs hgb hag hsz₅ hk₅ W hat
      dsimp only at hag hk₅
      refine hQ ps' a _ hps' (F₃.keeps hk₅) (fun p hp => ⟨hk₅ _ _ (N₃ p hp).1, (N₃ p hp).2⟩) ?_ o2 d2 (hlt ps') ?_
      · exact (show AllBare s₂.gens from g2 ▸ G).push hgb
      · have W' := W
        rw [passing_all, List.length_range] at W'
        have Wm := walksS_mono W' (fun j y (h : ∃ i, (List.range its.size)[j]? = some i ∧ Fv i y) => by
          obtain ⟨i, hi, hf⟩ := h
          obtain ⟨h1, h2⟩ := List.getElem?_eq_some_iff.mp hi
          simp at h1 h2
          subst h2
          exact hf)
        refine ⟨_, _, _, _, Wm, hat, (fun i s' st => st.1.typeIs), List.mem_cons_self, ?_, ?_⟩
        · intro b hb
          show b < h₅.objs.size
          rw [hsz₅]
          rcases List.mem_cons.mp hb with rfl | hb
          · exact Nat.lt_succ_self _
          · rcases List.mem_cons.mp hb with rfl | hb
            · exact Nat.lt_succ_of_lt hag
            · exact Nat.lt_succ_of_lt (Nat.lt_trans (List.mem_range.mp hb) hag)
        · intro b hb
          rcases List.mem_cons.mp hb with rfl | hb
          · show s.heap.objs.size - 1 < h₃.objs.size
            omega
          · rcases List.mem_cons.mp hb with rfl | hb
            · exact Nat.sub_lt (Nat.lt_of_le_of_lt (Nat.zero_le _) hLlt) Nat.one_pos
            · cases hb
  rcases tab_cases hps with ⟨hp0, hnf⟩ | ⟨c', hf⟩
  · refine wpAny_genexprCodeX hcode hok htab hnf fun c' h₃ tk₃ hx₃ hge hlt' hcode₃ _ htab₃ _ => ?_
    refine main c' h₃ tk₃ _ (.inr ⟨c', ?_⟩) (fun b o hb e => hx₃ b o hb e) (Nat.le_trans hge (Nat.le_of_lt hlt')) htab₃.2
    rw [hp0]; simp
  · refine wpAny_genexprCode_hit hcode hok hf ?_
    exact main c' s₂.heap s₂.toks ps hps (fun _ _ _ e => e) (Nat.le_refl _) (k2 _ _ hP0.1)
end
end
section
open PySem PySem.Spec PySem.Calls PySem.W PyProof.Rows
set_option maxRecDepth 100000
set_option maxHeartbeats 0
section
variable {w : World} {A : Around} {E : Value → Shared → Prop} {s : Shared} {h₀ : Heap} {L : Addr} {m mg mb : Str → Option Value} {news : List (Addr × Obj)} {env : Env}
theorem name_GB {M : Model} {K : Frag} {p : Program} {loose : List Str} {x : Str} {pos : Pos} {v : Value} {Q : Value → Shared → Prop} (F : Fr h₀ L s.heap m) (X : K.In h₀) (T : TopRead p loose mg mb h₀)
    (e : nsIn K mainGlobals x = some none) (hv : bootBuiltins x = some v) (hn : x ≠ "__name__") (h : Q v s) (hg : env.globals = mainGlobals) (hb : env.builtins = builtinsNs) (hk : env.scope.kind = .function) (hx : env.kindOf x = some .globalImplicit)
    (hd : (x == ("__debug__" : Str)) = false) : wpAny M A (eval (.Name x pos) env) Q E s :=
  Name_function_global hk hx (loadGlobal_builtin (by rw [hg]; exact T.g.keeps F.keep) (mg_none_of X T.g e) (by rw [hb]; exact T.b.keeps F.keep) ((T.builtins x hn).trans hv) h) hd
noncomputable abbrev gsc (x : String) : Scope := { kind := ScopeKind.function, names := [(Str.ofString ".0", NameKind.local), (Str.ofString "fws", NameKind.local), (Str.ofString "part", NameKind.local), (Str.ofString x, NameKind.globalImplicit)], isGenerator := true, isCoroutine := false }
theorem el_len {loose : List Str} {p q : Str} {ka kb : Tok} {p1 p2 p3 p4 p5 p6 p7 : Pos} {sc0 : Scope} {nm : Str} {a : Addr} {cd code : Value} {L' : Addr} (F : Fr h₀ L s.heap m) (X : (fr.heap_1 w.params).In h₀) (T : TopRead topProg loose mg mb h₀) (hle : nsIn (fr.heap_1 w.params) mainGlobals (Str.ofString "len") = some none) (h1 : m (Str.ofString "fws") = some (.str p ka)) (h2 : m (Str.ofString "part") = some (.str q kb))
    (hp : p.length ≤ 1000) (hq : q.length ≤ 1000) :
    wpAny (model PG w) A (eval (.BinOp (.Call (.Name (Str.ofString "len") p1) [.Name (Str.ofString "fws") p2] [] p3) .Add (.Call (.Name (Str.ofString "len") p4) [.Name (Str.ofString "part") p5] [] p6) p7)
      (genEnv (gsc "len") [] L code builtinsNs (envOf nm sc0 L' a cd))) (fun y s₃ => (∃ t, y = .int (p.length + q.length : Nat) t) ∧ Keeps s s₃) E s := by
  refine wpAny_BinOp (Call_name1 rfl ?_)
  refine name_GB F X T hle (by boot_fast) (by decide) ?_ rfl rfl rfl rfl (by decide)
  refine callWith_builtin1 (ldVarG F h1 ?_)
  refine len_str (by (first | lia | omega)) ?_
  refine Call_name1 rfl ?_
  have F' : ∀ k, Fr h₀ L ({ s with toks := k } : Shared).heap m := fun _ => F
  refine name_GB (F' _) X T hle (by boot_fast) (by decide) ?_ rfl rfl rfl rfl (by decide)
  refine callWith_builtin1 (ldVarG (F' _) h2 ?_)
  refine len_str (by (first | lia | omega)) ?_
  exact wpAny_add_int ⟨⟨_, by rw [Int.natCast_add]⟩, _, _, rfl, fun _ _ e => e⟩
theorem el_join {loose : List Str} {p q : Str} {ka kb ke : Tok} {p1 p3 p4 p5 : Pos} {kt : Nat} {sc0 : Scope} {nm : Str} {a : Addr} {cd code : Value} {L' : Addr} (F : Fr h₀ L s.heap m) (X : (fr.heap_1 w.params).In h₀) (T : TopRead topProg loose mg mb h₀)
    (he : nsIn (fr.heap_1 w.params) mainGlobals (Str.ofString "EMPTYSTRING") = some (some (.str (Str.ofString "") ke))) (h1 : m (Str.ofString "fws") = some (.str p ka)) (h2 : m (Str.ofString "part") = some (.str q kb))
    (hp : p.length ≤ 1000) (hq : q.length ≤ 1000) :
    wpAny (model PG w) A (eval (.Call (.Attribute (.Name (Str.ofString "EMPTYSTRING") p1) (Str.ofString "join") ⟨96, 33, 96, 49⟩) [.Tuple [.Name (Str.ofString "fws") p3, .Name (Str.ofString "part") p4] kt p5] [] ⟨96, 33, 96, 62⟩)
      (genEnv (gsc "EMPTYSTRING") [] L code builtinsNs (envOf nm sc0 L' a cd))) (fun y s₃ => (∃ t, y = .str (p ++ q) t) ∧ Keeps s s₃) E s := by
  refine MethodCall_ ?_ rfl
  refine nameG_K F X T he ?_ rfl rfl rfl (by decide)
  refine GM.join ?_
  try dsimp only
  refine callWith_method1 ?_
  refine spliced_cons ?_
  simp only [Bool.false_eq_true, if_false]
  refine wpAny_Tuple ?_
  refine spliced_cons ?_
  simp only [Bool.false_eq_true, if_false]
  refine ldVarG F h1 ?_
  refine spliced_cons ?_
  simp only [Bool.false_eq_true, if_false]
  refine ldVarG F h2 ?_
  refine spliced_nil ⟨by show 2 ≤ sizeLine; decide, ?_⟩
  refine spliced_nil ?_
  have h0 : (Str.ofString "").length = 0 := by decide
  have hl : ([p, q].map (·.length)).sum + [p, q].length * (Str.ofString "").length ≤ 16777216 := by simp [h0]; (first | lia | omega)
  refine join_tuple (ys := [p, q]) ⟨_, Heap.get?_push_size _ rfl, rfl, _, rfl⟩ (.cons _ _ (.cons _ _ .nil)) hl fun t' k => ?_
  have hj : Txt.join (Str.ofString "") [p, q] = p ++ q := by
    show Builtin.Str.glued _ _ = _
    rw [StrLaws.glued_eq_join]
    show p ++ Str.ofString "" ++ q = p ++ q
    have h0 : Str.ofString "" = ⟨#[]⟩ := by decide
    rw [h0]
    show (⟨p.cps ++ #[] ++ q.cps⟩ : Str) = ⟨p.cps ++ q.cps⟩
    simp
  rw [hj]
  exact ⟨⟨_, rfl⟩, _, _, rfl, fun _ _ e => Heap.get?_push_of_some _ e⟩
end
end
section
open PySem PySem.Spec PySem.Calls PySem.W PyProof.Rows
set_option maxRecDepth 100000
set_option maxHeartbeats 0
theorem kfacts4 : ∀ w : World, PySem.Challenge.rw_wu0100_01 = PySem.Challenge.rw_wu0100_01 ∧
    (fr.heap_1 w.params).lookup 144 = some ⟨.type "code", none, .fields #[Value.str (Str.ofString "__len__") 357, Value.str (Str.ofString "_Accumulator.__len__") 358,
        Value.str (Str.ofString "/claim/cut.py") 359, Value.int 92 0, Value.int 1 0, Value.int 0 0, Value.int 0 0,
        Value.int 3 0, Value.ref 139, Value.bool true, Value.int 181 0, Value.ref 140, Value.none, Value.ref 141,
        Value.ref 142, Value.ref 143, Value.int 361 0, Value.int 92 0, Value.str (Str.ofString "/claim/cut.py") 362], #[]⟩ ∧
    (∃ vs, (fr.heap_1 w.params).lookup 151 = some ⟨.type "code", none, .fields vs, #[]⟩ ∧ vs[11]? = some (.ref 147) ∧ vs.getD 11 .none = .ref 147 ∧ (∃ f t, vs.getD 18 .none = .str f t) ∧ (∃ f t, vs.getD 7 .none = .int f t) ∧ (∃ f t, vs.getD 9 .none = .bool t ∧ f = 0) ∧ (∃ f t, vs.getD 10 .none = .int f t)) ∧
    nsIn (fr.heap_1 w.params) mainGlobals (Str.ofString "len") = some none ∧ (∃ ke, nsIn (fr.heap_1 w.params) mainGlobals (Str.ofString "EMPTYSTRING") = some (some (.str (Str.ofString "") ke))) := by
  k_fill
  intro w
  refine ⟨rfl, by k_is, ⟨_, by k_is, rfl, rfl, ⟨_, _, rfl⟩, ⟨_, _, rfl⟩, ⟨0, _, rfl, rfl⟩, ⟨_, _, rfl⟩⟩, by k_is, ⟨_, by k_is⟩⟩
theorem code_len {w : World} {h : Heap} (X : (fr.heap_1 w.params).In h) : CodeIn h 144 140 :=
  ⟨_, _, _, _, _, _, _, _, _, X _ _ (kfacts4 w).2.1, rfl, rfl, rfl, rfl, rfl, rfl, rfl, rfl⟩
theorem code_str {w : World} {h : Heap} (X : (fr.heap_1 w.params).In h) : CodeIn h 151 147 := by
  obtain ⟨vs, hl, a, b, ⟨_, _, c⟩, ⟨_, _, d⟩, ⟨_, _, e, -⟩, ⟨_, _, f⟩⟩ := (kfacts4 w).2.2.1
  exact ⟨_, _, _, _, _, _, _, _, _, X _ _ hl, rfl, rfl, a, b, c, d, e, f⟩
noncomputable abbrev tup2 (v1 v2 : Value) : Obj := { cls := .type "tuple", data := .seq #[v1, v2] }
noncomputable def Words (news : List (Addr × Obj)) (its : Array Value) (p q : Str) : Prop := ∀ v ∈ its.toList, ∃ T ka kb, v = .ref T ∧ (T, tup2 (.str p ka) (.str q kb)) ∈ news
theorem Words.at {news : List (Addr × Obj)} {its : Array Value} {p q : Str} (W : Words news its p q) : ∃ (Ts : Nat → Addr) (ka kb : Nat → Tok), ∀ j, j < its.size → its[j]? = some (.ref (Ts j)) ∧ (Ts j, tup2 (.str p (ka j)) (.str q (kb j))) ∈ news := by
  have h : ∀ j, ∃ (T : Addr) (ka kb : Tok), j < its.size → its[j]? = some (.ref T) ∧ (T, tup2 (.str p ka) (.str q kb)) ∈ news := by
    intro j
    by_cases hj : j < its.size
    · obtain ⟨T, ka, kb, e, hm⟩ := W its[j] (Array.getElem_mem hj).val
      exact ⟨T, ka, kb, fun _ => ⟨by rw [Array.getElem?_eq_getElem hj, e], hm⟩⟩
    · exact ⟨0, 0, 0, fun h => absurd h hj⟩
  exact ⟨fun j => (h j).choose, fun j => (h j).choose_spec.choose, fun j => (h j).choose_spec.choose_spec.choose, fun j hj => (h j).choose_spec.choose_spec.choose_spec hj⟩
section
variable {w : World} {A : Around} {E : Value → Shared → Prop} {s : Shared} {x cd : Addr} {its : Array Value} {n : Nat} {h₀ : Heap} {L : Addr} {m mg mb : Str → Option Value} {news : List (Addr × Obj)} {g : Obj → List (Addr × Obj)} {ps : Array Value} {a K : Addr} {Fv : Nat → Value → Prop}
theorem gen_keep {g' : Nat} {s' : Shared} {wr : List Addr} (Fh : Fr h₀ L s.heap m) (N : News h₀ L s.heap news) (hm : Moved wr (GenOnlyQ g') s s') (hwr : ∀ b ∈ wr, K < b) (hLK : L ≤ K) (hlt : ∀ p ∈ news, p.1 ≤ K) :
    Fr h₀ L s'.heap m ∧ News h₀ L s'.heap news :=
  ⟨Fh.moved hm fun b hb => Nat.lt_of_le_of_lt hLK (hwr b hb), fun p hp => ⟨hm.heap _ _ (fun hmem => Nat.lt_irrefl _ (Nat.lt_of_lt_of_le (hwr _ hmem) (hlt p hp))) (N p hp).1, (N p hp).2⟩⟩
theorem gen_toks {k : Nat} {tk : Nat} (X : Gen PG w A K a k Fv s) (h : s.toks ≤ tk) : Gen PG w A K a k Fv { heap := s.heap, gens := s.gens, drawn := s.drawn, toks := tk, os := s.os } := by
  obtain ⟨fp, wr, g, St, W, hst, h1, h2, h3, h4⟩ := X
  exact ⟨fp, wr, g, St, W, W.frame 0 s s.heap tk hst h fun _ _ _ e => e, h1, h2, h3, h4⟩
theorem sum_gen {t₀ : Tok} {k : Nat} {c : Nat} {Q : Value → Shared → Prop} (Fh : Fr h₀ L s.heap m) (N : News h₀ L s.heap news) (G : AllBare s.gens) (X : Gen PG w A K a k Fv s) (hLK : L ≤ K) (hlt : ∀ p ∈ news, p.1 ≤ K)
    (hval : ∀ j v, Fv j v → ∃ t, v = .int (c : Nat) t) (hc : c ≤ 2000) (hk : k ≤ 1000)
    (hQ : ∀ s' t', Fr h₀ L s'.heap m → News h₀ L s'.heap news → AllBare s'.gens → s'.os = s.os → s'.drawn = s.drawn → Q (.int (k * c : Nat) t') s') : wpAny (model PG w) A (call (.builtin "sum") [.ref a, .int 0 t₀]) Q E s := by
  obtain ⟨fp, wr, g, St, W, hst, _, _, hfp, hwr⟩ := X
  have W := W.in4_1
  have hpre : ∀ j, preSum (fun _ => (c : Int)) j = (j * c : Nat) := by
    intro j
    induction j with
    | zero => simp [preSum]
    | succ j ih => simp only [preSum, ih]; push_cast; rw [Int.add_mul]; simp
  refine sum_start (W.self 0 _ _ _ hst ⟨a, _, _, _, _, _, _, fun _ => (c : Int), rfl, W, hst, hfp, hval, fun j hj => ?_, fun s' t' hm => ?_⟩)
  · rw [hpre]
    have : (j + 1) * c ≤ 1000 * 2000 := Nat.mul_le_mul (by (first | lia | omega)) hc
    unfold InLong
    try dsimp only
    (first | lia | omega)
  · rw [hpre]
    obtain ⟨f1, n1⟩ := gen_keep Fh N hm hwr hLK hlt
    exact hQ s' t' f1 n1 (G.movedS hm) hm.os hm.drawn
theorem join_gen {t₀ : Tok} {k : Nat} {c : Str} {sep : Str} {Q : Value → Shared → Prop} (Fh : Fr h₀ L s.heap m) (N : News h₀ L s.heap news) (G : AllBare s.gens) (X : Gen PG w A K a k Fv s) (hLK : L ≤ K) (hlt : ∀ p ∈ news, p.1 ≤ K)
    (hval : ∀ j v, Fv j v → ∃ t, v = .str c t) (hc : c.length ≤ 2000) (hs : sep.length ≤ 10) (hk : k ≤ 1000)
    (hQ : ∀ s' t', Fr h₀ L s'.heap m → News h₀ L s'.heap news → AllBare s'.gens → s'.os = s.os → Q (.str (Txt.join sep (List.replicate k c)) t') s') : wpAny (model PG w) A (call (.builtin "str.join") [.str sep t₀, .ref a]) Q E s := by
  have er : (List.range k).map (fun _ => c) = List.replicate k c := List.map_const' ..|>.trans (by rw [List.length_range])
  have hkc : k * c.length ≤ 1000 * 2000 := Nat.mul_le_mul hk hc
  have hks : k * sep.length ≤ 1000 * 10 := Nat.mul_le_mul hk hs
  refine join_rowsK Fh G X hLK (fun _ => c) hval ?_ (fun s' t' f1 g1 o1 k1 => ?_) (by rw [sizeLine_eq]; (first | lia | omega))
  · rw [er]; exact joinOk_of (by simp; (first | lia | omega))
  · rw [er]; exact hQ s' t' f1 (fun p hp => ⟨k1 _ _ (hlt p hp) (N p hp).1, (N p hp).2⟩) g1 o1
theorem upd_mem {P y : Addr} {o o' : Obj} (N : News h₀ L s.heap news) (U : UpdF P (tableObj ps) news g) (hm : (y, o) ∈ news) (ho : o.cls ≠ .none) : (y, o) ∈ g o' := by
  refine updF_keep U hm fun e => ho ?_
  have h1 := (N _ hm).1
  have h2 := (N _ (updF_old U)).1
  dsimp only at h1 e
  rw [e, h2] at h1
  cases h1; rfl
theorem gen_len {loose : List Str} {mean : ExcName → Option Value} {nm : Str} {sc0 : Scope} {f : Addr} {od : Obj} {p q : Str} {Q : Value → Shared → Prop} {p1 p2 p3 p4 p5 p6 p7 q1 q2 q4 q5 : Pos} {q3 : Nat} (F : Fr h₀ L s.heap m) (X : (fr.heap_1 w.params).In h₀) (N : News h₀ L s.heap news) (U : UpdF 140 (tableObj ps) news g) (G : AllBare s.gens) (T : Top topProg loose mean mg mb h₀)
    (hps : TabOk ⟨93, 19, 93, 63⟩ ps) (hx : (x, accObj cd its n) ∈ news) (hcdm : (cd, od) ∈ news) (hod : od.cls ≠ .none) (hself : m (Str.ofString "self") = some (.ref x)) (W : Words news its p q) (hp : p.length ≤ 1000) (hq : q.length ≤ 1000) (hh : A.handled = none) (hroom : A.depth < recursionLimit)
    (hkind : sc0.kind = .function) (hloc : (envOf nm sc0 L f (.ref 144)).kindOf (Str.ofString "self") = some .local)
    (hQ : ∀ ps' a K s₅, TabOk ⟨93, 19, 93, 63⟩ ps' → Fr h₀ L s₅.heap m → News h₀ L s₅.heap (g (tableObj ps')) → AllBare s₅.gens → s₅.os = s.os → L ≤ K → (∀ p ∈ g (tableObj ps'), p.1 ≤ K) → (x, accObj cd its n) ∈ g (tableObj ps') → (cd, od) ∈ g (tableObj ps') → Gen PG w A K a its.size (fun _ v => ∃ t, v = .int (p.length + q.length : Nat) t) s₅ → Q (.ref a) s₅) :
    wpAny (model PG w) A (eval (.GeneratorExp (.BinOp (.Call (.Name (Str.ofString "len") p1) [.Name (Str.ofString "fws") p2] [] p3) .Add (.Call (.Name (Str.ofString "len") p4) [.Name (Str.ofString "part") p5] [] p6) p7) [⟨.Tuple [.Name (Str.ofString "fws") q1, .Name (Str.ofString "part") q2] q3 q4, .Name (Str.ofString "self") q5, [], 0⟩] (gsc "len") ⟨93, 19, 93, 63⟩) (envOf nm sc0 L f (.ref 144))) Q E s := by
  obtain ⟨Ts, ka, kb, hW⟩ := W.at
  obtain ⟨bm, ob, M⟩ := bmod_of_top T
  have hLlt : L < s.heap.objs.size := F.ns.lt
  refine gen_acc (va := fun j => .str p (ka j)) (vb := fun j => .str q (kb j)) (Ts := Ts) (cl := []) (Fv := fun _ v => ∃ t, v = .int (p.length + q.length : Nat) t) F X N U G T.nolimit M rfl (code_len X) hps hx (fun j hj => (hW j hj).1) (fun j hj => ⟨_, (N _ (hW j hj).2).1, rfl, _, rfl⟩) hh rfl rfl (by decide) rfl rfl rfl (by decide) rfl hroom (fun _ => rfl) (fun Q hq => ld F hself hq hkind hloc (by decide)) (fun c' C A' E' j t m₂ _ _ _ hj F₂ h1 h2 => ?_) (fun ps' a s₅ hps' F₅ N₅ G₅ o₅ _ hlt₅ X₅ => ?_)
  · exact el_len F₂ X (topRead_of T) (kfacts4 w).2.2.2.1 h1 h2 hp hq
  · exact hQ ps' a _ s₅ hps' F₅ N₅ G₅ o₅ (Nat.le_sub_one_of_lt hLlt) (fun p hp => Nat.le_sub_one_of_lt (hlt₅ p hp)) (upd_mem N U hx (by simp)) (upd_mem N U hcdm hod) X₅
theorem gen_str {loose : List Str} {mean : ExcName → Option Value} {nm : Str} {sc0 : Scope} {f : Addr} {od : Obj} {p q : Str} {Q : Value → Shared → Prop} {p1 p3 p4 p5 q1 q2 q4 q5 : Pos} {q3 kt : Nat} (F : Fr h₀ L s.heap m) (X : (fr.heap_1 w.params).In h₀) (N : News h₀ L s.heap news) (U : UpdF 147 (tableObj ps) news g) (G : AllBare s.gens) (T : Top topProg loose mean mg mb h₀)
    (hps : TabOk ⟨96, 32, 96, 85⟩ ps) (hx : (x, accObj cd its n) ∈ news) (hcdm : (cd, od) ∈ news) (hod : od.cls ≠ .none) (hself : m (Str.ofString "self") = some (.ref x)) (W : Words news its p q) (hp : p.length ≤ 1000) (hq : q.length ≤ 1000) (hh : A.handled = none) (hroom : A.depth < recursionLimit)
    (hkind : sc0.kind = .function) (hloc : (envOf nm sc0 L f (.ref 151)).kindOf (Str.ofString "self") = some .local)
    (hQ : ∀ ps' a K s₅, TabOk ⟨96, 32, 96, 85⟩ ps' → Fr h₀ L s₅.heap m → News h₀ L s₅.heap (g (tableObj ps')) → AllBare s₅.gens → s₅.os = s.os → L ≤ K → (∀ p ∈ g (tableObj ps'), p.1 ≤ K) → (x, accObj cd its n) ∈ g (tableObj ps') → (cd, od) ∈ g (tableObj ps') → Gen PG w A K a its.size (fun _ v => ∃ t, v = .str (p ++ q) t) s₅ → Q (.ref a) s₅) :
    wpAny (model PG w) A (eval (.GeneratorExp (.Call (.Attribute (.Name (Str.ofString "EMPTYSTRING") p1) (Str.ofString "join") ⟨96, 33, 96, 49⟩) [.Tuple [.Name (Str.ofString "fws") p3, .Name (Str.ofString "part") p4] kt p5] [] ⟨96, 33, 96, 62⟩) [⟨.Tuple [.Name (Str.ofString "fws") q1, .Name (Str.ofString "part") q2] q3 q4, .Name (Str.ofString "self") q5, [], 0⟩] (gsc "EMPTYSTRING") ⟨96, 32, 96, 85⟩) (envOf nm sc0 L f (.ref 151))) Q E s := by
  obtain ⟨Ts, ka, kb, hW⟩ := W.at
  obtain ⟨bm, ob, M⟩ := bmod_of_top T
  have hLlt : L < s.heap.objs.size := F.ns.lt
  refine gen_acc (va := fun j => .str p (ka j)) (vb := fun j => .str q (kb j)) (Ts := Ts) (cl := []) (Fv := fun _ v => ∃ t, v = .str (p ++ q) t) F X N U G T.nolimit M rfl (code_str X) hps hx (fun j hj => (hW j hj).1) (fun j hj => ⟨_, (N _ (hW j hj).2).1, rfl, _, rfl⟩) hh rfl rfl (by decide) rfl rfl rfl (by decide) rfl hroom (fun _ => rfl) (fun Q hq => ld F hself hq hkind hloc (by decide)) (fun c' C A' E' j t m₂ _ _ _ hj F₂ h1 h2 => ?_) (fun ps' a s₅ hps' F₅ N₅ G₅ o₅ _ hlt₅ X₅ => ?_)
  · (obtain ⟨ke, hke⟩ := (kfacts4 w).2.2.2.2); exact el_join F₂ X (topRead_of T) hke h1 h2 hp hq
  · exact hQ ps' a _ s₅ hps' F₅ N₅ G₅ o₅ (Nat.le_sub_one_of_lt hLlt) (fun p hp => Nat.le_sub_one_of_lt (hlt₅ p hp)) (upd_mem N U hx (by simp)) (upd_mem N U hcdm hod) X₅
theorem words_upd {P : Addr} {o' : Obj} {p q : Str} (N : News h₀ L s.heap news) (U : UpdF P (tableObj ps) news g) (W : Words news its p q) : Words (g o') its p q := fun v hv => by
  obtain ⟨T, ka, kb, e, hm⟩ := W v hv
  exact ⟨T, ka, kb, e, upd_mem N U hm (by simp)⟩
end
end
section
open PySem PySem.Spec PySem.Calls PySem.W PyProof.Rows
set_option maxRecDepth 100000
set_option maxHeartbeats 0
theorem rows_S3_1 : True := by
  k_with_none
  w_top off
  k_with "k_mem" => (assumption)
  k_with "k_ne" => (first | exact ne_mem1 (by with_reducible assumption) (by with_reducible assumption) | exact ne_mem2 (by with_reducible assumption) (by with_reducible assumption))
  k_with "execs cons" => (first | (k_here; k_gentoks) | ((try (rename Flow → Shared → Prop => qq; clear qq)); (try (rename Value → Shared → Prop => qq; clear qq)); refine wpAny_execs_cons ?_; (try dsimp only); k_fold))
  trivial

theorem rows_S3_2 : True := by
  k_with "k_updF" => (with_reducible assumption)
  k_with "k_inst" => (refine accI_news (by k_asm) (by k_mem) (by k_mem))
  k_with "getAttr ref" => (k_here; k_dflt (refine get_acc (by k_asm) (by k_asm) (by k_asm) (by k_mem) (by k_mem) (by k_is) (by k_is) (by k_is) (by k_get) (by k_handed) ?_; k_whole))
  k_with "getMethod ref" => (k_here; k_dflt (first | ((with_reducible show wpAny _ _ (getMethod (Value.ref _) (PySem.Str.ofString "append") _) _ _ _); refine method_acc_app (by k_asm) (by k_asm) (by k_asm) (by k_mem) (by k_mem) (by k_get) ?_; k_whole) | (refine method_acc_fn (by k_asm) (by k_asm) (by k_asm) (by k_mem) (by k_mem) (by k_is) (by k_is) (by k_get) ?_; k_whole) | ((with_reducible show wpAny _ _ (getMethod (Value.ref _) (PySem.Str.ofString "pop") _) _ _ _); refine sup_pop (by k_asm) (by k_asm) (by k_asm) (by k_mem) (by k_mem) ?_; k_whole; intro q' h' F' N' l1; (try k_lt l1); revert q' h' F' N' l1; intros) | ((with_reducible show wpAny _ _ (getMethod (Value.ref _) (PySem.Str.ofString "__len__") _) _ _ _); refine sup_len (by k_asm) (by k_asm) (by k_asm) (by k_mem) (by k_mem) ?_; k_whole; intro q' h' F' N' l1; (try k_lt l1); revert q' h' F' N' l1; intros) | ((with_reducible show wpAny _ _ (getMethod (Value.ref _) (PySem.Str.ofString "__init__") _) _ _ _); refine sup_init (by k_asm) (by k_asm) (by k_asm) (by k_mem) (by k_mem) ?_; k_whole; intro q' h' F' N' l1; (try k_lt l1); revert q' h' F' N' l1; intros)))
  k_with "call builtin:list.append" => (k_here; k_dflt (refine append_acc (by k_asm) (by k_asm) (by k_asm) (by k_updF) (by first | assumption | omega) ?_; k_whole; intro n' h' F' N'; (try dsimp only at N'); revert n' h' F' N'; intros))
  k_with "callWith ref" => (k_here; k_dflt ((with_reducible show wpAny _ _ (callWith _ (Value.ref _) [] (backTo _ (starEach [] _)) []) _ _ _); refine bm_callWith (by k_asm) (by k_mem) (by first | exact .inl rfl | exact .inr rfl) ?_; k_whole; (try dsimp only [List.nil_append])))
  k_with "call ref" => (k_here; k_dflt (first | (refine bm_call_len (by k_asm) (by k_asm) (by k_asm) (by k_mem) (by k_mem) ?_; k_whole) | (refine bm_call_init (by k_asm) (by k_asm) (by k_asm) (by k_mem) (by k_updF) ?_; k_whole; intro n' h' F' N'; (try dsimp only at N'); revert n' h' F' N'; intros) | (refine bm_call_pop (by k_asm) (by k_asm) (by k_asm) (by k_mem) (by k_updF) (by first | assumption | omega) (by assumption) ?_; k_whole; intro n' h' F' N'; (try dsimp only at N'); revert n' h' F' N'; intros)))
  k_with "wpAt" => ((fail_if_success ks_step "execs cons"); dsimp only; ks_step "execs cons"; refine ks_wpAt_execs_cons ?_)
  k_with "wpAt" => (ks_step "eval Call"; k_dflt (refine ks_wpAt_MethodCall ?_))
  k_with "k_ne" => (first | exact ne_mem1 (by with_reducible assumption) (by with_reducible assumption) | exact ne_mem1 (And.right (by with_reducible assumption)) (by with_reducible assumption) | exact ne_mem1 (And.right (And.right (by with_reducible assumption))) (by with_reducible assumption) | exact ne_mem1 (And.right (And.right (And.right (by with_reducible assumption)))) (by with_reducible assumption) | exact ne_mem1 (And.right (And.right (And.right (And.right (by with_reducible assumption))))) (by with_reducible assumption) | exact ne_mem1 (And.right (And.right (And.right (And.right (And.right (by with_reducible assumption)))))) (by with_reducible assumption) | exact ne_mem1 (And.right (And.right (And.right (And.right (And.right (And.right (by with_reducible assumption))))))) (by with_reducible assumption))
  k_with "subscriptTail" => (k_here; (with_reducible show wpAny _ _ (subscriptTail _ _ (Value.ref _) (Value.int _ _)) _ _ _); k_dflt (refine acc_itemTail (by k_asm) (by k_asm) (by k_asm) (by k_mem) (by first | assumption | omega) (by omega) (by assumption) (by with_unfolding_all rfl) ?_; k_whole))
  k_with "subscriptTail" => (k_here; (with_reducible show wpAny _ _ (subscriptTail _ _ (Value.ref _) (Value.ref _)) _ _ _); k_dflt (refine acc_sliceTail (by k_asm) (by k_asm) (by k_asm) (by k_mem) (by first | exact IsPart.none | exact IsPart.int _ _) (by first | exact IsPart.none | exact IsPart.int _ _) (by first | assumption | omega) (by with_unfolding_all rfl) ?_; k_whole; intro l' h' F' N' l1; (try k_lt l1); revert l' h' F' N' l1; intros))
  k_with "setItem ref" => (k_here; k_dflt (refine acc_sliceSet (by k_asm) (by k_asm) (by k_asm) (by k_updF) (by first | exact IsPart.none | exact IsPart.int _ _) (by first | exact IsPart.none | exact IsPart.int _ _) (by k_mem) (by first | assumption | omega) (by first | assumption | decide | (simp; done) | omega) ?_; k_whole; intro n' h' F' N'; (try dsimp only at N'); revert n' h' F' N'; intros))
  k_with "setAttr ref" => (k_here; k_dflt (refine set_acc (by k_asm) (by k_asm) (by k_asm) (by k_mem) (by k_is) (by k_is) (by k_get) (by k_put) (by k_upd) (by simp) ?_; k_whole; intro h' F' N'; (try dsimp only at N'); revert h' F' N'; intros))
  k_with "call builtin:sum" => (k_here; k_dflt (refine sum_gen (by k_asm) (by k_asm) (by assumption) (by first | assumption | exact gen_toks (by assumption) (Nat.le_succ _)) (by assumption) (by assumption) (by exact fun _ _ h => h) (by omega) (by assumption) ?_; k_whole; intros))
  k_with "call builtin:str.join" => (k_here; k_dflt (refine join_gen (by k_asm) (by k_asm) (by assumption) (by assumption) (by assumption) (by assumption) (by exact fun _ _ h => h) (by exact Nat.le_trans (Nat.le_of_eq (Str.length_append _ _)) (by omega)) (by decide) (by assumption) ?_; k_whole; intros))
  k_with "eval GeneratorExp" => (k_here; k_dflt (refine gen_len (by k_asm) (by k_asm) (by k_asm) (by assumption) (by assumption) (by k_asm) (by assumption) (by assumption) (by assumption) (by simp) (by exact rfl) (by assumption) (by assumption) (by assumption) (by exact rfl) (by ktr_room) (by exact rfl) (by exact rfl) ?_; k_whole; intros))
  k_with "execs cons" => (first | (k_here; k_gentoks) | ((try (rename Flow → Shared → Prop => qq; clear qq)); (try (rename Value → Shared → Prop => qq; clear qq)); refine wpAny_execs_cons ?_; (try dsimp only); k_fold))
  trivial
theorem len_spec : ∀ {w : World} {loose : List Str} {mean : ExcName → Option Value} {mg mb : Str → Option Value} {dp un : Nat} {gd : Option (List Code)} {cn : Str} {cs : Scope} {a : Addr} {ccd : Value} {cl : List (Str × Addr)} {outer : List Env} {A₀ : Around} {base h₀ : Heap} {L : Addr} {m : Str → Option Value} {s : Shared} {Q E : Value → Shared → Prop} {news : List (Addr × Obj)} {p q : Str} {ps : Array Value} {g1 : Obj → List (Addr × Obj)} {ca cd : Nat} {its : Array Value} {n : Nat} {h1 : Int} {x1 x2 : Tok}
  (B : Below A₀ base outer h₀) (F : Fr h₀ L s.heap m) (X : (fr.heap_1 w.params).In h₀) (N : News h₀ L s.heap news) (T : Top topProg loose mean mg mb h₀) (hk : cs.kind = .function) (hdp : dp + 6 < recursionLimit) (hun : un + 80 < cLine) (U140 : UpdF 140 (tableObj ps) news g1) (hps140 : TabOk ⟨93, 19, 93, 63⟩ ps) (ha : (ca, accObj cd its n) ∈ news) (hcd : (cd, dictOf [⟨h1, .str (Str.ofString "_initial_size") x1, .int 0 x2⟩] 1) ∈ news) (hz : its.size ≤ 1000)(W : Words news its p q) (hp : p.length ≤ 1000) (hq : q.length ≤ 1000) (G : AllBare s.gens)  (hret : ∀ ps₁ tk s₁, TabOk ⟨93, 19, 93, 63⟩ ps₁ → Fr h₀ L s₁.heap m → News h₀ L s₁.heap (g1 (tableObj ps₁)) → AllBare s₁.gens → s₁.os = s.os → its.size * (p.length + q.length) ≤ 2000000 → Q (.int (its.size * (p.length + q.length) : Nat) tk) s₁),
  wpAny (model PySem.Challenge.rw_wu0100_01.row.prog w) (ktrTop dp un gd cn cs L a ccd cl outer) (call (.ref 145) [.ref ca]) Q E s := by
  k_fill
  intro w loose mean mg mb dp un gd cn cs a ccd cl outer A₀ base h₀ L m s Q E news p q ps g1 ca cd its n h1 x1 x2 B F X N T hk hdp hun U140 hps140 ha hcd hz W hp hq G hret
  refine wpAny_call ?_
  k_dflt (refine' code_def ?k1 ?k2 ?k3 ?k4 ?k5 ?kA ?kF ?kK ?k6 ?k7 ?k8 ?k9 ?kB ?_ ?c2 ?c3 ?c4 ?c5; (case kA => exact rfl); (case kF => exact rfl); (case kK => first | exact rfl | assumption); (case k1 => k_asm); (case k2 => k_asm); (case k3 => k_asm); (case k4 => k_asm); (case k5 => k_asm); (case k6 => k_is); (case k7 => k_is); (case k8 => ktr_room); (case k9 => first | exact BindsTo.of_eq rfl | exact binds_K (by k_in) rfl (by k_is) rfl rfl rfl); (case c5 => decide); (case kB => exact locs rfl); (case c2 => exact rfl); (case c3 => exact rfl); (case c4 => exact rfl); k_whole; intro g' L' h' FG' F' N' B' X' T'; (try dsimp only); (try k_lift B'); (try k_fold))
  k_steps
  all_goals refine' hret _ _ _ ?a ?b ?c ?d ?e ?f
  case f => exact (show _ ≤ 1000 * 2000 from Nat.mul_le_mul hz (by omega))
  case c => k_asm
  case b => k_asm
  case a => assumption
  case d => assumption
  case e => (simp only [*])
theorem rows_S3_3 : True := by
  k_with "eval GeneratorExp" => (k_here; k_dflt (refine gen_str (by k_asm) (by k_asm) (by k_asm) (by assumption) (by assumption) (by k_asm) (by assumption) (by assumption) (by assumption) (by simp) (by exact rfl) (by assumption) (by assumption) (by assumption) (by exact rfl) (by ktr_room) (by exact rfl) (by exact rfl) ?_; k_whole; intros))
  k_with "execs cons" => (first | (k_here; k_gentoks) | ((try (rename Flow → Shared → Prop => qq; clear qq)); (try (rename Value → Shared → Prop => qq; clear qq)); refine wpAny_execs_cons ?_; (try dsimp only); k_fold))
  trivial
theorem str_spec : ∀ {w : World} {loose : List Str} {mean : ExcName → Option Value} {mg mb : Str → Option Value} {dp un : Nat} {gd : Option (List Code)} {cn : Str} {cs : Scope} {a : Addr} {ccd : Value} {cl : List (Str × Addr)} {outer : List Env} {A₀ : Around} {base h₀ : Heap} {L : Addr} {m : Str → Option Value} {s : Shared} {Q E : Value → Shared → Prop} {news : List (Addr × Obj)} {p q : Str} {ps : Array Value} {g1 : Obj → List (Addr × Obj)} {ca cd : Nat} {its : Array Value} {n : Nat} {h1 : Int} {x1 x2 : Tok}
  (B : Below A₀ base outer h₀) (F : Fr h₀ L s.heap m) (X : (fr.heap_1 w.params).In h₀) (N : News h₀ L s.heap news) (T : Top topProg loose mean mg mb h₀) (hk : cs.kind = .function) (hdp : dp + 6 < recursionLimit) (hun : un + 80 < cLine) (U147 : UpdF 147 (tableObj ps) news g1) (hps147 : TabOk ⟨96, 32, 96, 85⟩ ps) (ha : (ca, accObj cd its n) ∈ news) (hcd : (cd, dictOf [⟨h1, .str (Str.ofString "_initial_size") x1, .int 0 x2⟩] 1) ∈ news) (hz : its.size ≤ 1000)(W : Words news its p q) (hp : p.length ≤ 1000) (hq : q.length ≤ 1000) (G : AllBare s.gens)  (hret : ∀ ps₁ tk s₁, TabOk ⟨96, 32, 96, 85⟩ ps₁ → Fr h₀ L s₁.heap m → News h₀ L s₁.heap (g1 (tableObj ps₁)) → AllBare s₁.gens → s₁.os = s.os → Q (.str (Txt.join (Str.ofString "") (List.replicate its.size (p ++ q))) tk) s₁),
  wpAny (model PySem.Challenge.rw_wu0100_01.row.prog w) (ktrTop dp un gd cn cs L a ccd cl outer) (call (.ref 152) [.ref ca]) Q E s := by
  k_fill
  intro w loose mean mg mb dp un gd cn cs a ccd cl outer A₀ base h₀ L m s Q E news p q ps g1 ca cd its n h1 x1 x2 B F X N T hk hdp hun U147 hps147 ha hcd hz W hp hq G hret
  refine wpAny_call ?_
  k_dflt (refine' code_def ?k1 ?k2 ?k3 ?k4 ?k5 ?kA ?kF ?kK ?k6 ?k7 ?k8 ?k9 ?kB ?_ ?c2 ?c3 ?c4 ?c5; (case kA => exact rfl); (case kF => exact rfl); (case kK => first | exact rfl | assumption); (case k1 => k_asm); (case k2 => k_asm); (case k3 => k_asm); (case k4 => k_asm); (case k5 => k_asm); (case k6 => k_is); (case k7 => k_is); (case k8 => ktr_room); (case k9 => first | exact BindsTo.of_eq rfl | exact binds_K (by k_in) rfl (by k_is) rfl rfl rfl); (case c5 => decide); (case kB => exact locs rfl); (case c2 => exact rfl); (case c3 => exact rfl); (case c4 => exact rfl); k_whole; intro g' L' h' FG' F' N' B' X' T'; (try dsimp only); (try k_lift B'); (try k_fold))
  k_steps
  all_goals refine' hret _ _ _ ?a ?b ?c ?d ?e
  case c => k_asm
  case b => k_asm
  case a => assumption
  case d => assumption
  case e => (simp only [*])
end
section
open PySem PySem.Spec PySem.Calls PySem.W PyProof.Rows
set_option maxRecDepth 100000
set_option maxHeartbeats 0
section
variable {w : World} {A : Around} {E : Value → Shared → Prop} {s : Shared} {x cd C f : Addr} {its : Array Value} {n : Nat} {h₀ : Heap} {L : Addr} {m mg mb : Str → Option Value} {news : List (Addr × Obj)} {K : Frag} {ox : Obj} {od : Option Obj}
theorem truthy_len {Q : Bool → Shared → Prop} (F : Fr h₀ L s.heap m) (X₀ : K.In h₀) (I : InstAt s.heap x ox C od) (hs : findIn K (.ref C) "__bool__" = some none) (hl : findIn K (.ref C) "__len__" = some (some (.ref f))) (hf : isFn K (.ref f) = true)
    (h : wpAny (model PG w) A.in1 (call (.ref f) [.ref x]) (W.LenBack (fun v s' => match v with | .int n _ => Q (n != 0) s' | _ => False)) E s) : wpAny (model PG w) A (truthy (.ref x)) Q E s := by
  have X := X₀.keeps F.keep
  have key : wpAny (model PG w) A (runValue (.builtin "len" ⟨[.ref x], []⟩)) (fun v s' => match v with | .int n _ => Q (n != 0) s' | _ => False) E s := by
    refine wpAny_runValue (codeAny_builtin entry_len ?_)
    rw [Around.under_plainId plain_len _]
    unfold Builtin.«len»
    refine wpAny_bind (m := oneArg "len" _) (wpAny_pure ?_)
    refine wpAny_bind (m := callSpecial? (.ref x) (Str.ofString "__len__")) (special_fn X I hl (beq_iff_eq.mp hf) (wpAny_mono h (fun r s' hr => ?_) fun _ _ y => y))
    cases r <;> first | exact hr.elim | skip
    rename_i n u
    obtain ⟨⟨h0, h1⟩, hq⟩ := hr
    refine wpAny_bind (wpAny_holding (wpAny_pure ?_))
    refine wpAny_bind (wpAny_letGo ?_)
    show wpAny _ _ (if n < 0 then _ else _) _ _ _
    rw [if_neg (by omega)]
    show wpAny _ _ (if n ≥ 2 ^ 63 then _ else _) _ _ _
    rw [if_neg (by omega)]
    exact wpAny_bind (wpAny_mkInt (wpAny_pure hq))
  unfold truthy
  refine wpAny_bind (m := callSpecial? (.ref x) (Str.ofString "__bool__")) (wpAny_bind (wpAny_bind (I.type.here ((looks_findIn X hs).here (wpAny_pure ?_)))))
  refine wpAny_bind (wpAny_bind (I.type.here ((looks_findIn X hl).here ?_)))
  refine wpAny_bind (wpAny_mono key (fun v s' hv => ?_) fun _ _ z => z)
  cases v <;> first | exact hv.elim | exact wpAny_pure hv
noncomputable def setL (d : Addr) (o' : Obj) (l : List (Addr × Obj)) : List (Addr × Obj) := l.map fun p => if p.1 = d then (d, o') else p
theorem setL_keys {d : Addr} {o' : Obj} {l : List (Addr × Obj)} : (setL d o' l).map (·.1) = l.map (·.1) := by
  unfold setL
  rw [List.map_map]
  refine List.map_congr_left fun p _ => ?_
  dsimp only [Function.comp]
  split
  · rename_i h; exact h.symm
  · rfl
theorem setL_none {d : Addr} {o' : Obj} {l : List (Addr × Obj)} (h : ∀ p ∈ l, p.1 ≠ d) : setL d o' l = l := by
  unfold setL
  exact (List.map_congr_left (g := id) fun p hp => if_neg (h p hp)).trans (List.map_id _)
theorem setL_upd {d : Addr} {o : Obj} {l : List (Addr × Obj)} (hm : (d, o) ∈ l) (hn : (l.map (·.1)).Nodup) : UpdF d o l fun o' => setL d o' l := by
  induction l with
  | nil => cases hm
  | cons p l ih =>
    rw [List.map_cons, List.nodup_cons] at hn
    by_cases e : p.1 = d
    · have hp : p = (d, o) := by
        rcases List.mem_cons.mp hm with h | h
        · exact h.symm
        · exact absurd (List.mem_map.mpr ⟨_, h, rfl⟩) (e ▸ hn.1)
      subst hp
      have hl : ∀ q ∈ l, q.1 ≠ d := fun q hq e' => hn.1 (List.mem_map.mpr ⟨q, hq, e'⟩)
      have := UpdF.head (o := o) hl
      have e2 : (fun o' => setL d o' ((d, o) :: l)) = fun o' => (d, o') :: l := by
        funext o'
        show (if d = d then (d, o') else (d, o)) :: setL d o' l = _
        rw [if_pos rfl, setL_none hl]
      rw [e2]; exact this
    · have := UpdF.tail (p := p) e (ih (by
        rcases List.mem_cons.mp hm with h | h
        · exact absurd (by rw [← h]) e
        · exact h) hn.2)
      have e2 : (fun o' => setL d o' (p :: l)) = fun o' => p :: setL d o' l := by
        funext o'
        show (if p.1 = d then (d, o') else p) :: setL d o' l = _
        rw [if_neg e]
      rw [e2]; exact this
theorem setL_mem {d : Addr} {o o' : Obj} {l : List (Addr × Obj)} (hm : (d, o) ∈ l) : (d, o') ∈ setL d o' l :=
  List.mem_map.mpr ⟨(d, o), hm, if_pos rfl⟩
theorem setL_ne {d : Addr} {o' : Obj} {l : List (Addr × Obj)} {p : Addr × Obj} (hm : p ∈ l) (h : p.1 ≠ d) : p ∈ setL d o' l :=
  List.mem_map.mpr ⟨p, hm, if_neg h⟩
end
end
section
open PySem PySem.Spec PySem.Calls PySem.W PyProof.Rows
set_option maxRecDepth 100000
set_option maxHeartbeats 0
noncomputable abbrev pos1 : Pos := ⟨93, 19, 93, 63⟩
noncomputable abbrev pos2 : Pos := ⟨96, 32, 96, 85⟩
noncomputable abbrev iniObj (h1 : Int) (x1 x2 : Tok) : Obj := dictOf [⟨h1, .str (Str.ofString "_initial_size") x1, .int 0 x2⟩] 1
structure AccL (news : List (Addr × Obj)) (ca cd : Addr) (its : Array Value) (p q : Str) : Prop where
  nd : (news.map (·.1)).Nodup
  ha : ∃ n, (ca, accObj cd its n) ∈ news
  hcd : ∃ h1 x1 x2, (cd, iniObj h1 x1 x2) ∈ news
  t1 : ∃ ps, (140, tableObj ps) ∈ news ∧ TabOk pos1 ps
  t2 : ∃ ps, (147, tableObj ps) ∈ news ∧ TabOk pos2 ps
  W : Words news its p q
  hz : its.size ≤ 100
  hp : p.length ≤ 1000
  hq : q.length ≤ 1000
theorem AccL.elim {news : List (Addr × Obj)} {ca cd : Addr} {its : Array Value} {p q : Str} {C : Prop} (A : AccL news ca cd its p q) (k : (news.map (·.1)).Nodup → ∀ n, (ca, accObj cd its n) ∈ news → ∀ h1 x1 x2, (cd, iniObj h1 x1 x2) ∈ news → ∀ ps1, (140, tableObj ps1) ∈ news → TabOk pos1 ps1 → ∀ ps2, (147, tableObj ps2) ∈ news → TabOk pos2 ps2 → Words news its p q → its.size ≤ 100 → p.length ≤ 1000 → q.length ≤ 1000 → C) : C := by
  obtain ⟨nd, ⟨n, ha⟩, ⟨h1, x1, x2, hcd⟩, ⟨ps1, t1, k1⟩, ⟨ps2, t2, k2⟩, W, hz, hp, hq⟩ := A
  exact k nd n ha h1 x1 x2 hcd ps1 t1 k1 ps2 t2 k2 W hz hp hq
theorem AccL.elim2 {news : List (Addr × Obj)} {ca cd : Addr} {its : Array Value} {p q : Str} {C : Prop} (A : AccL news ca cd its p q) (k : (news.map (·.1)).Nodup → ∀ n, (ca, accObj cd its n) ∈ news → ∀ h1 x1 x2, (cd, iniObj h1 x1 x2) ∈ news → Words news its p q → its.size ≤ 100 → C) : C := by
  obtain ⟨nd, ⟨n, ha⟩, ⟨h1, x1, x2, hcd⟩, ⟨ps1, t1, k1⟩, ⟨ps2, t2, k2⟩, W, hz, hp, hq⟩ := A
  exact k nd n ha h1 x1 x2 hcd W hz
noncomputable def KeepL (ca cd : Addr) (news news' : List (Addr × Obj)) : Prop := ∀ y ∈ news, y.1 ≠ ca → y.1 ≠ cd → y.1 ≠ 140 → y.1 ≠ 147 → y ∈ news'
theorem nd_obj {news : List (Addr × Obj)} {x : Addr} {o o' : Obj} (nd : (news.map (·.1)).Nodup) (h : (x, o) ∈ news) (h' : (x, o') ∈ news) : o = o' := by
  induction news with
  | nil => cases h
  | cons y l ih =>
    rw [List.map_cons, List.nodup_cons] at nd
    rcases List.mem_cons.mp h with e | h
    · rcases List.mem_cons.mp h' with e' | h'
      · rw [← e] at e'; cases e'; rfl
      · exact absurd (List.mem_map.mpr ⟨_, h', rfl⟩) (by rw [← e] at nd; exact nd.1)
    · rcases List.mem_cons.mp h' with e' | h'
      · exact absurd (List.mem_map.mpr ⟨_, h, rfl⟩) (by rw [← e'] at nd; exact nd.1)
      · exact ih nd.2 h h'
theorem nd_ne {news : List (Addr × Obj)} {x y : Addr} {o o' : Obj} (nd : (news.map (·.1)).Nodup) (h : (x, o) ∈ news) (h' : (y, o') ∈ news) (hn : o ≠ o') : x ≠ y := fun e => hn (nd_obj nd h (e ▸ h'))
theorem Words.mono {news news' : List (Addr × Obj)} {its : Array Value} {p q : Str} (W : Words news its p q) (h : ∀ T ka kb, (T, tup2 (.str p ka) (.str q kb)) ∈ news → (T, tup2 (.str p ka) (.str q kb)) ∈ news') : Words news' its p q := fun v hv => by
  obtain ⟨T, ka, kb, e, hm⟩ := W v hv
  exact ⟨T, ka, kb, e, h T ka kb hm⟩
section
variable {news : List (Addr × Obj)} {ca cd : Addr} {its its' : Array Value} {p q : Str}
theorem acc_ini {n : Nat} {h1 : Int} {x1 x2 : Tok} : accObj cd its n ≠ iniObj h1 x1 x2 := fun e => by have := congrArg Obj.cls e; simp at this
theorem acc_tab {n : Nat} {ps : Array Value} : accObj cd its n ≠ tableObj ps := fun e => by have := congrArg Obj.cls e; simp at this
theorem ini_tab {h1 : Int} {x1 x2 : Tok} {ps : Array Value} : iniObj h1 x1 x2 ≠ tableObj ps := fun e => by have := congrArg Obj.cls e; simp at this
theorem cls_ne {o o' : Obj} (h : o.cls ≠ o'.cls) : o ≠ o' := fun e => h (e ▸ rfl)
theorem tup_tab {a b : Value} {ps : Array Value} : tup2 a b ≠ tableObj ps := cls_ne (by simp)
theorem tup_acc {a b : Value} {n : Nat} : tup2 a b ≠ accObj cd its n := cls_ne (by simp)
theorem tup_ini {a b : Value} {h1 : Int} {x1 x2 : Tok} : tup2 a b ≠ iniObj h1 x1 x2 := cls_ne (by simp)
theorem AccL.set1 (A : AccL news ca cd its p q) {ps : Array Value} (h : TabOk pos1 ps) : AccL (setL 140 (tableObj ps) news) ca cd its p q := by
  (refine AccL.elim A ?_; intro nd n ha h1 x1 x2 hcd ps1 t1 k1 ps2 t2 k2 W hz hp hq)
  exact ⟨(by rw [setL_keys]; exact nd), ⟨n, setL_ne ha (nd_ne nd ha t1 acc_tab)⟩, ⟨h1, x1, x2, setL_ne hcd (nd_ne nd hcd t1 ini_tab)⟩, ⟨ps, setL_mem t1, h⟩, ⟨ps2, setL_ne t2 (show (147 : Nat) ≠ 140 by decide), k2⟩,
    W.mono fun T ka kb hm => setL_ne hm (nd_ne nd hm t1 tup_tab), hz, hp, hq⟩
theorem AccL.set2 (A : AccL news ca cd its p q) {ps : Array Value} (h : TabOk pos2 ps) : AccL (setL 147 (tableObj ps) news) ca cd its p q := by
  (refine AccL.elim A ?_; intro nd n ha h1 x1 x2 hcd ps1 t1 k1 ps2 t2 k2 W hz hp hq)
  exact ⟨(by rw [setL_keys]; exact nd), ⟨n, setL_ne ha (nd_ne nd ha t2 acc_tab)⟩, ⟨h1, x1, x2, setL_ne hcd (nd_ne nd hcd t2 ini_tab)⟩, ⟨ps1, setL_ne t1 (show (140 : Nat) ≠ 147 by decide), k1⟩, ⟨ps, setL_mem t2, h⟩,
    W.mono fun T ka kb hm => setL_ne hm (nd_ne nd hm t2 tup_tab), hz, hp, hq⟩
theorem AccL.setA (A : AccL news ca cd its p q) {n : Nat} (hW : ∀ v ∈ its'.toList, v ∈ its.toList) (hz' : its'.size ≤ 100) : AccL (setL ca (accObj cd its' n) news) ca cd its' p q := by
  (refine AccL.elim A ?_; intro nd n0 ha h1 x1 x2 hcd ps1 t1 k1 ps2 t2 k2 W hz hp hq)
  have h1' := nd_ne nd hcd ha (Ne.symm acc_ini)
  have h2' := nd_ne nd t1 ha (Ne.symm acc_tab)
  have h3' := nd_ne nd t2 ha (Ne.symm acc_tab)
  exact ⟨(by rw [setL_keys]; exact nd), ⟨n, setL_mem ha⟩, ⟨h1, x1, x2, setL_ne hcd h1'⟩, ⟨ps1, setL_ne t1 h2', k1⟩, ⟨ps2, setL_ne t2 h3', k2⟩,
    fun v hv => (W.mono fun T ka kb hm => setL_ne hm (nd_ne nd hm ha tup_acc)) v (hW v hv), hz', hp, hq⟩
theorem AccL.setI (A : AccL news ca cd its p q) {h1 : Int} {x1 x2 : Tok} : AccL (setL cd (iniObj h1 x1 x2) news) ca cd its p q := by
  (refine AccL.elim A ?_; intro nd n0 ha h1' x1' x2' hcd ps1 t1 k1 ps2 t2 k2 W hz hp hq)
  exact ⟨(by rw [setL_keys]; exact nd), ⟨n0, setL_ne ha (nd_ne nd ha hcd acc_ini)⟩, ⟨h1, x1, x2, setL_mem hcd⟩, ⟨ps1, setL_ne t1 (nd_ne nd t1 hcd (Ne.symm ini_tab)), k1⟩, ⟨ps2, setL_ne t2 (nd_ne nd t2 hcd (Ne.symm ini_tab)), k2⟩,
    W.mono fun T ka kb hm => setL_ne hm (nd_ne nd hm hcd tup_ini), hz, hp, hq⟩
theorem AccL.cons (A : AccL news ca cd its p q) {x : Addr} {o : Obj} (h : ∀ y ∈ news, @LT.lt Nat _ y.1 x) : AccL ((x, o) :: news) ca cd its p q := by
  (refine AccL.elim A ?_; intro nd n0 ha h1' x1' x2' hcd ps1 t1 k1 ps2 t2 k2 W hz hp hq)
  refine ⟨?_, ⟨n0, .tail _ ha⟩, ⟨h1', x1', x2', .tail _ hcd⟩, ⟨ps1, .tail _ t1, k1⟩, ⟨ps2, .tail _ t2, k2⟩, W.mono fun T ka kb hm => .tail _ hm, hz, hp, hq⟩
  rw [List.map_cons, List.nodup_cons]
  refine ⟨fun hm => ?_, nd⟩
  obtain ⟨y, hy, e⟩ := List.mem_map.mp hm
  have := h y hy
  rw [e] at this
  exact Nat.lt_irrefl _ this
theorem setL_lt {d x : Addr} {o' : Obj} (h : ∀ y ∈ news, @LT.lt Nat _ y.1 x) : ∀ y ∈ setL d o' news, @LT.lt Nat _ y.1 x := by
  intro y hy
  have : y.1 ∈ (setL d o' news).map (·.1) := List.mem_map.mpr ⟨y, hy, rfl⟩
  rw [setL_keys] at this
  obtain ⟨z, hz, e⟩ := List.mem_map.mp this
  rw [← e]; exact h z hz
end
end
section
open PySem PySem.Spec PySem.Calls PySem.W PyProof.Rows
set_option maxRecDepth 100000
set_option maxHeartbeats 0
theorem keep1 {news : List (Addr × Obj)} {ca cd : Addr} {o : Obj} : KeepL ca cd news (setL 140 o news) := fun y hy _ _ h _ => setL_ne hy h
theorem keep2 {news : List (Addr × Obj)} {ca cd : Addr} {o : Obj} : KeepL ca cd news (setL 147 o news) := fun y hy _ _ _ h => setL_ne hy h
theorem keepA {news : List (Addr × Obj)} {ca cd : Addr} {o : Obj} : KeepL ca cd news (setL ca o news) := fun y hy h _ _ _ => setL_ne hy h
theorem keepI {news : List (Addr × Obj)} {ca cd : Addr} {o : Obj} : KeepL ca cd news (setL cd o news) := fun y hy _ h _ _ => setL_ne hy h
theorem KeepL.cons {news news' : List (Addr × Obj)} {ca cd : Addr} {e : Addr × Obj} (K : KeepL ca cd news news') : KeepL ca cd news (e :: news') := fun y hy a b c d => .tail _ (K y hy a b c d)
theorem KeepL.trans {n1 n2 n3 : List (Addr × Obj)} {ca cd : Addr} (K : KeepL ca cd n1 n2) (K' : KeepL ca cd n2 n3) : KeepL ca cd n1 n3 := fun y hy a b c d => K' y (K y hy a b c d) a b c d
theorem KeepL.rfl {n1 : List (Addr × Obj)} {ca cd : Addr} : KeepL ca cd n1 n1 := fun _ hy _ _ _ _ => hy
theorem AccL.addW {news : List (Addr × Obj)} {ca cd : Addr} {its its' : Array Value} {p q : Str} (A : AccL news ca cd its' p q) (hW : Words news its p q) (hz : its.size ≤ 100) {n : Nat} : AccL (setL ca (accObj cd its n) news) ca cd its p q := by
  (refine AccL.elim A ?_; intro nd n0 ha h1 x1 x2 hcd ps1 t1 k1 ps2 t2 k2 W hz' hp hq)
  exact ⟨(by rw [setL_keys]; exact nd), ⟨n, setL_mem ha⟩, ⟨h1, x1, x2, setL_ne hcd (nd_ne nd hcd ha (Ne.symm acc_ini))⟩, ⟨ps1, setL_ne t1 (nd_ne nd t1 ha (Ne.symm acc_tab)), k1⟩, ⟨ps2, setL_ne t2 (nd_ne nd t2 ha (Ne.symm acc_tab)), k2⟩,
    hW.mono fun T ka kb hm => setL_ne hm (nd_ne nd hm ha tup_acc), hz, hp, hq⟩
theorem words_nil {news : List (Addr × Obj)} {p q : Str} : Words news #[] p q := fun v hv => by cases hv
theorem word_lt {news : List (Addr × Obj)} {p q : Str} {its : Array Value} {T : Addr} {ka kb : Tok} (W : Words news its p q) (hm : (T, tup2 (.str p ka) (.str q kb)) ∈ news) : Words news (its.push (.ref T)) p q := fun v hv => by
  rw [Array.toList_push] at hv
  rcases List.mem_append.mp hv with h | h
  · exact W v h
  · obtain rfl := List.mem_singleton.mp h
    exact ⟨T, ka, kb, rfl, hm⟩
theorem setL_cons {d : Addr} {o' : Obj} {e : Addr × Obj} {l : List (Addr × Obj)} (h : e.1 ≠ d) : setL d o' (e :: l) = e :: setL d o' l := by
  unfold setL; rw [List.map_cons, if_neg h]
theorem erased_mem {xs : Array Value} {k : Nat} {v : Value} (h : v ∈ (xs.eraseIdxIfInBounds k).toList) : v ∈ xs.toList := by
  rw [Array.toList_eraseIdxIfInBounds] at h
  exact List.mem_of_mem_eraseIdx h
theorem erased_size {xs : Array Value} (h : 0 < xs.size) : (xs.eraseIdxIfInBounds (xs.size - 1)).size = xs.size - 1 := by
  rw [Array.eraseIdxIfInBounds, dif_pos (by omega)]
  simp
theorem slice_from (its : Array Value) (k : Nat) (hk : k ≤ its.size) : slicePick its (some (k : Int)) none none = (its.toList.drop k).toArray := by
  rw [kms_pick_eq]
  unfold kms_pick kms_lo kms_hi
  have h1 : ¬ ((k : Int) < 0) := by omega
  simp only [h1, if_false, Int.toNat_natCast, Array.length_toList]
  rw [Nat.min_eq_left hk, List.take_of_length_le (by simp)]
theorem toTup {a : Value} {b : Value} : ({ cls := .type "tuple", data := .seq #[a, b] } : Obj) = tup2 a b := rfl
theorem len_A : ∀ {w : World} {loose : List Str} {mean : ExcName → Option Value} {mg mb : Str → Option Value} {dp un : Nat} {gd : Option (List Code)} {cn : Str} {cs : Scope} {a : Addr} {ccd : Value} {cl : List (Str × Addr)} {outer : List Env} {A₀ : Around} {base h₀ : Heap} {L : Addr} {m : Str → Option Value} {s : Shared} {Q E : Value → Shared → Prop} {news : List (Addr × Obj)} {ca cd : Nat} {its : Array Value} {p q : Str}
  (B : Below A₀ base outer h₀) (F : Fr h₀ L s.heap m) (X : (fr.heap_1 w.params).In h₀) (N : News h₀ L s.heap news) (T : Top topProg loose mean mg mb h₀) (hk : cs.kind = .function) (hdp : dp + 6 < recursionLimit) (hun : un + 80 < cLine) (A : AccL news ca cd its p q) (G : AllBare s.gens) (hret : ∀ tk (s₁ : Shared) (news₁ : List (Addr × Obj)), Fr h₀ L s₁.heap m → News h₀ L s₁.heap news₁ → AccL news₁ ca cd its p q → KeepL ca cd news news₁ → AllBare s₁.gens → s₁.os = s.os → its.size * (p.length + q.length) ≤ 2000000 → (its.size = 0 ∨ p.length + q.length = 0 ∨ 1 ≤ its.size * (p.length + q.length)) → Q (.int (its.size * (p.length + q.length) : Nat) tk) s₁),
  wpAny (model PySem.Challenge.rw_wu0100_01.row.prog w) (ktrTop dp un gd cn cs L a ccd cl outer) (call (.ref 145) [.ref ca]) Q E s := by
  intro w loose mean mg mb dp un gd cn cs a ccd cl outer A₀ base h₀ L m s Q E news ca cd its p q B F X N T hk hdp hun A G hret
  (refine AccL.elim A ?_; intro nd n ha h1 x1 x2 hcd ps1 t1 k1 ps2 t2 k2 W hz hp hq)
  exact len_spec B F X N T hk hdp hun (setL_upd t1 nd) k1 ha hcd (Nat.le_trans hz (by decide)) W hp hq G fun ps₁ tk s₁ hps₁ F₁ N₁ G₁ o₁ hb => hret tk s₁ _ F₁ N₁ (A.set1 hps₁) keep1 G₁ o₁ hb (by rcases Nat.eq_zero_or_pos its.size with h | h; exact .inl h; rcases Nat.eq_zero_or_pos (p.length + q.length) with h' | h'; exact .inr (.inl h'); exact .inr (.inr (Nat.mul_le_mul h h')))
theorem str_A : ∀ {w : World} {loose : List Str} {mean : ExcName → Option Value} {mg mb : Str → Option Value} {dp un : Nat} {gd : Option (List Code)} {cn : Str} {cs : Scope} {a : Addr} {ccd : Value} {cl : List (Str × Addr)} {outer : List Env} {A₀ : Around} {base h₀ : Heap} {L : Addr} {m : Str → Option Value} {s : Shared} {Q E : Value → Shared → Prop} {news : List (Addr × Obj)} {ca cd : Nat} {its : Array Value} {p q : Str}
  (B : Below A₀ base outer h₀) (F : Fr h₀ L s.heap m) (X : (fr.heap_1 w.params).In h₀) (N : News h₀ L s.heap news) (T : Top topProg loose mean mg mb h₀) (hk : cs.kind = .function) (hdp : dp + 6 < recursionLimit) (hun : un + 80 < cLine) (A : AccL news ca cd its p q) (G : AllBare s.gens) (hret : ∀ tk (s₁ : Shared) (news₁ : List (Addr × Obj)), Fr h₀ L s₁.heap m → News h₀ L s₁.heap news₁ → AccL news₁ ca cd its p q → KeepL ca cd news news₁ → AllBare s₁.gens → s₁.os = s.os → Q (.str (Txt.join (Str.ofString "") (List.replicate its.size (p ++ q))) tk) s₁),
  wpAny (model PySem.Challenge.rw_wu0100_01.row.prog w) (ktrTop dp un gd cn cs L a ccd cl outer) (call (.ref 152) [.ref ca]) Q E s := by
  intro w loose mean mg mb dp un gd cn cs a ccd cl outer A₀ base h₀ L m s Q E news ca cd its p q B F X N T hk hdp hun A G hret
  (refine AccL.elim A ?_; intro nd n ha h1 x1 x2 hcd ps1 t1 k1 ps2 t2 k2 W hz hp hq)
  exact str_spec B F X N T hk hdp hun (setL_upd t2 nd) k2 ha hcd (Nat.le_trans hz (by decide)) W hp hq G fun ps₁ tk s₁ hps₁ F₁ N₁ G₁ o₁ => hret tk s₁ _ F₁ N₁ (A.set2 hps₁) keep2 G₁ o₁
theorem push_A : ∀ {w : World} {loose : List Str} {mean : ExcName → Option Value} {mg mb : Str → Option Value} {dp un : Nat} {gd : Option (List Code)} {cn : Str} {cs : Scope} {a : Addr} {ccd : Value} {cl : List (Str × Addr)} {outer : List Env} {A₀ : Around} {base h₀ : Heap} {L : Addr} {m : Str → Option Value} {s : Shared} {Q E : Value → Shared → Prop} {news : List (Addr × Obj)} {ca cd : Nat} {its : Array Value} {p q : Str} {ka kb : Tok}
  (B : Below A₀ base outer h₀) (F : Fr h₀ L s.heap m) (X : (fr.heap_1 w.params).In h₀) (N : News h₀ L s.heap news) (T : Top topProg loose mean mg mb h₀) (hk : cs.kind = .function) (hdp : dp + 2 < recursionLimit) (hun : un + 24 < cLine) (A : AccL news ca cd its p q) (G : AllBare s.gens) (hz1 : its.size ≤ 99) (hret : ∀ (its' : Array Value) (s₁ : Shared) (news₁ : List (Addr × Obj)), Fr h₀ L s₁.heap m → News h₀ L s₁.heap news₁ → AccL news₁ ca cd its' p q → KeepL ca cd news news₁ → AllBare s₁.gens → s₁.os = s.os → its'.size = its.size + 1 → Q .none s₁),
  wpAny (model PySem.Challenge.rw_wu0100_01.row.prog w) (ktrTop dp un gd cn cs L a ccd cl outer) (call (.ref 122) [.ref ca, .str p ka, .str q kb]) Q E s := by
  intro w loose mean mg mb dp un gd cn cs a ccd cl outer A₀ base h₀ L m s Q E news ca cd its p q ka kb B F X N T hk hdp hun A G hz1 hret
  (refine AccL.elim A ?_; intro nd n ha h1 x1 x2 hcd ps1 t1 k1 ps2 t2 k2 W hz hp hq)
  refine push_spec B F X N T hk hdp hun (setL_upd ha nd) ha hcd (Nat.le_trans hz (by decide)) fun tt n₁ h₁ tk₁ F₁ N₁ hlt => ?_
  have hne : ((tt, tup2 (.str p ka) (.str q kb)) : Addr × Obj).1 ≠ ca := fun e => by
    have h3 : @LT.lt Nat _ ca tt := hlt _ ha
    exact Nat.lt_irrefl ca (by rw [show tt = ca from e] at h3; exact h3)
  have A1 := A.cons (x := tt) (o := tup2 (.str p ka) (.str q kb)) hlt
  have A2 := A1.addW (n := n₁) (its := its.push (.ref tt)) (word_lt (W.mono fun _ _ _ h => .tail _ h) (.head _)) (by simp; omega)
  rw [setL_cons hne] at A2
  exact hret (its.push (.ref tt)) _ _ F₁ N₁ A2 keepA.cons G rfl (by simp)
theorem pop_A : ∀ {w : World} {loose : List Str} {mean : ExcName → Option Value} {mg mb : Str → Option Value} {dp un : Nat} {gd : Option (List Code)} {cn : Str} {cs : Scope} {a : Addr} {ccd : Value} {cl : List (Str × Addr)} {outer : List Env} {A₀ : Around} {base h₀ : Heap} {L : Addr} {m : Str → Option Value} {s : Shared} {Q E : Value → Shared → Prop} {news : List (Addr × Obj)} {ca cd : Nat} {its : Array Value} {p q : Str}
  (B : Below A₀ base outer h₀) (F : Fr h₀ L s.heap m) (X : (fr.heap_1 w.params).In h₀) (N : News h₀ L s.heap news) (T : Top topProg loose mean mg mb h₀) (hk : cs.kind = .function) (hdp : dp + 4 < recursionLimit) (hun : un + 48 < cLine) (A : AccL news ca cd its p q) (G : AllBare s.gens) (hpos : 0 < its.size) (hret : ∀ (its' : Array Value) T ka kb (s₁ : Shared) (news₁ : List (Addr × Obj)), Fr h₀ L s₁.heap m → News h₀ L s₁.heap news₁ → AccL news₁ ca cd its' p q → KeepL ca cd news news₁ → AllBare s₁.gens → s₁.os = s.os → its'.size = its.size - 1 → (T, tup2 (.str p ka) (.str q kb)) ∈ news₁ → Q (.ref T) s₁),
  wpAny (model PySem.Challenge.rw_wu0100_01.row.prog w) (ktrTop dp un gd cn cs L a ccd cl outer) (call (.ref 138) [.ref ca]) Q E s := by
  intro w loose mean mg mb dp un gd cn cs a ccd cl outer A₀ base h₀ L m s Q E news ca cd its p q B F X N T hk hdp hun A G hpos hret
  (refine AccL.elim A ?_; intro nd n ha h1 x1 x2 hcd ps1 t1 k1 ps2 t2 k2 W hz hp hq)
  obtain ⟨t0, ka, kb, e, hm⟩ := W its[its.size - 1] (Array.getElem_mem (by omega)).val
  exact pop_spec B F X N T hk hdp hun (setL_upd ha nd) ha hcd (Nat.le_trans hz (by decide)) (.ref t0) hpos (by rw [← e]; exact Array.getElem?_eq_getElem (by omega)) fun n₁ h₁ tk₁ F₁ N₁ => hret _ t0 ka kb _ _ F₁ N₁ (A.setA (fun v hv => erased_mem hv) (Nat.le_trans (erased_le _ _) hz)) keepA G rfl (erased_size hpos) (setL_ne hm (nd_ne nd hm ha tup_acc))
theorem pope_A : ∀ {w : World} {loose : List Str} {mean : ExcName → Option Value} {mg mb : Str → Option Value} {dp un : Nat} {gd : Option (List Code)} {cn : Str} {cs : Scope} {a : Addr} {ccd : Value} {cl : List (Str × Addr)} {outer : List Env} {A₀ : Around} {base h₀ : Heap} {L : Addr} {m : Str → Option Value} {s : Shared} {Q E : Value → Shared → Prop} {news : List (Addr × Obj)} {ca cd : Nat} {its : Array Value} {p q : Str}
  (B : Below A₀ base outer h₀) (F : Fr h₀ L s.heap m) (X : (fr.heap_1 w.params).In h₀) (N : News h₀ L s.heap news) (T : Top topProg loose mean mg mb h₀) (hk : cs.kind = .function) (hdp : dp + 4 < recursionLimit) (hun : un + 48 < cLine) (A : AccL news ca cd its p q) (G : AllBare s.gens) (he : its.size = 0) (hret : ∀ T ka kb (s₁ : Shared) (news₁ : List (Addr × Obj)), Fr h₀ L s₁.heap m → News h₀ L s₁.heap news₁ → AccL news₁ ca cd its p q → KeepL ca cd news news₁ → AllBare s₁.gens → s₁.os = s.os → (T, tup2 (.str (Str.ofString "") ka) (.str (Str.ofString "") kb)) ∈ news₁ → Q (.ref T) s₁),
  wpAny (model PySem.Challenge.rw_wu0100_01.row.prog w) (ktrTop dp un gd cn cs L a ccd cl outer) (call (.ref 138) [.ref ca]) Q E s := by
  intro w loose mean mg mb dp un gd cn cs a ccd cl outer A₀ base h₀ L m s Q E news ca cd its p q B F X N T hk hdp hun A G he hret
  (refine AccL.elim A ?_; intro nd n ha h1 x1 x2 hcd ps1 t1 k1 ps2 t2 k2 W hz hp hq)
  exact pop_empty B F X N T hk hdp hun ha hcd (Nat.le_trans hz (by decide)) he fun tt c1 c2 h₁ tk₁ F₁ N₁ hlt => hret tt c1 c2 _ _ F₁ N₁ (A.cons hlt) (KeepL.rfl.cons) G rfl (.head _)
theorem popf_A : ∀ {w : World} {loose : List Str} {mean : ExcName → Option Value} {mg mb : Str → Option Value} {dp un : Nat} {gd : Option (List Code)} {cn : Str} {cs : Scope} {a : Addr} {ccd : Value} {cl : List (Str × Addr)} {outer : List Env} {A₀ : Around} {base h₀ : Heap} {L : Addr} {m : Str → Option Value} {s : Shared} {Q E : Value → Shared → Prop} {news : List (Addr × Obj)} {ca cd : Nat} {its : Array Value} {p q : Str} {k : Nat} {tk : Tok}
  (B : Below A₀ base outer h₀) (F : Fr h₀ L s.heap m) (X : (fr.heap_1 w.params).In h₀) (N : News h₀ L s.heap news) (T : Top topProg loose mean mg mb h₀) (hk : cs.kind = .function) (hdp : dp + 2 < recursionLimit) (hun : un + 24 < cLine) (A : AccL news ca cd its p q) (G : AllBare s.gens) (hk1 : k ≤ its.size) (hret : ∀ (its' : Array Value) ll (new : Array Value) c (s₁ : Shared) (news₁ : List (Addr × Obj)), Fr h₀ L s₁.heap m → News h₀ L s₁.heap news₁ → AccL news₁ ca cd its' p q → KeepL ca cd news news₁ → AllBare s₁.gens → s₁.os = s.os → its'.size = k → (ll, listOf new c) ∈ news₁ → Words news₁ new p q → new.size = its.size - k → Q (.ref ll) s₁),
  wpAny (model PySem.Challenge.rw_wu0100_01.row.prog w) (ktrTop dp un gd cn cs L a ccd cl outer) (call (.ref 130) [.ref ca, .int k tk]) Q E s := by
  intro w loose mean mg mb dp un gd cn cs a ccd cl outer A₀ base h₀ L m s Q E news ca cd its p q k tk B F X N T hk hdp hun A G hk1 hret
  (refine AccL.elim A ?_; intro nd n ha h1 x1 x2 hcd ps1 t1 k1 ps2 t2 k2 W hz hp hq)
  refine popf_spec B F X N T hk hdp hun (setL_upd ha nd) ha hcd (Nat.le_trans hz (by decide)) (k : Int) tk (by omega) fun ll n₁ c₁ h₁ tk₁ F₁ N₁ hlt => ?_
  rw [putSlice_from its k hk1] at N₁
  have hsub : ∀ v ∈ ((its.toList.take k).toArray).toList, v ∈ its.toList := fun v hv => List.mem_of_mem_take (by simpa using hv)
  have A1 := A.setA (n := n₁) (its' := (its.toList.take k).toArray) hsub (by simp; omega)
  have A2 := A1.cons (x := ll) (o := listOf (slicePick its (some (k : Int)) none none) c₁) (setL_lt hlt)
  refine hret _ ll _ c₁ _ _ F₁ N₁ A2 (keepA.cons) G rfl (by simp; omega) (.head _) ?_ ?_
  · rw [slice_from its k hk1]
    intro v hv
    obtain ⟨T, ka, kb, e, hm⟩ := W v (List.mem_of_mem_drop (by simpa using hv))
    exact ⟨T, ka, kb, e, .tail _ (setL_ne hm (nd_ne nd hm ha tup_acc))⟩
  · rw [slice_from its k hk1]; simp
theorem reset_A : ∀ {w : World} {loose : List Str} {mean : ExcName → Option Value} {mg mb : Str → Option Value} {dp un : Nat} {gd : Option (List Code)} {cn : Str} {cs : Scope} {a : Addr} {ccd : Value} {cl : List (Str × Addr)} {outer : List Env} {A₀ : Around} {base h₀ : Heap} {L : Addr} {m : Str → Option Value} {s : Shared} {Q E : Value → Shared → Prop} {news : List (Addr × Obj)} {ca cd : Nat} {its : Array Value} {p q : Str}
  (B : Below A₀ base outer h₀) (F : Fr h₀ L s.heap m) (X : (fr.heap_1 w.params).In h₀) (N : News h₀ L s.heap news) (T : Top topProg loose mean mg mb h₀) (hk : cs.kind = .function) (hdp : dp + 2 < recursionLimit) (hun : un + 24 < cLine) (A : AccL news ca cd its p q) (G : AllBare s.gens) (hret : ∀  (s₁ : Shared) (news₁ : List (Addr × Obj)), Fr h₀ L s₁.heap m → News h₀ L s₁.heap news₁ → AccL news₁ ca cd #[] p q → KeepL ca cd news news₁ → AllBare s₁.gens → s₁.os = s.os → Q .none s₁),
  wpAny (model PySem.Challenge.rw_wu0100_01.row.prog w) (ktrTop dp un gd cn cs L a ccd cl outer) (call (.ref 160) [.ref ca]) Q E s := by
  intro w loose mean mg mb dp un gd cn cs a ccd cl outer A₀ base h₀ L m s Q E news ca cd its p q B F X N T hk hdp hun A G hret
  (refine AccL.elim A ?_; intro nd n ha h1 x1 x2 hcd ps1 t1 k1 ps2 t2 k2 W hz hp hq)
  refine reset_none B F X N T hk hdp hun (setL_upd ha nd) (g₂ := fun o o' => setL cd o' (setL ca o news)) (fun o₁ => setL_upd (setL_ne hcd (nd_ne nd hcd ha (Ne.symm acc_ini))) (by rw [setL_keys]; exact nd)) ha hcd (Nat.le_trans hz (by decide)) fun n₁ y₁ h₁ tk₁ F₁ N₁ => ?_
  exact hret _ _ F₁ N₁ (A.setA (its' := #[]) (by intro v hv; cases hv) (by simp)).setI (keepA.trans keepI) G rfl
theorem resetl_A : ∀ {w : World} {loose : List Str} {mean : ExcName → Option Value} {mg mb : Str → Option Value} {dp un : Nat} {gd : Option (List Code)} {cn : Str} {cs : Scope} {a : Addr} {ccd : Value} {cl : List (Str × Addr)} {outer : List Env} {A₀ : Around} {base h₀ : Heap} {L : Addr} {m : Str → Option Value} {s : Shared} {Q E : Value → Shared → Prop} {news : List (Addr × Obj)} {ca cd : Nat} {its : Array Value} {p q : Str} {l : Addr} {new : Array Value} {c : Nat}
  (B : Below A₀ base outer h₀) (F : Fr h₀ L s.heap m) (X : (fr.heap_1 w.params).In h₀) (N : News h₀ L s.heap news) (T : Top topProg loose mean mg mb h₀) (hk : cs.kind = .function) (hdp : dp + 2 < recursionLimit) (hun : un + 24 < cLine) (A : AccL news ca cd its p q) (G : AllBare s.gens) (hl : (l, listOf new c) ∈ news) (hW : Words news new p q) (hzn : new.size ≤ 100) (hret : ∀  (s₁ : Shared) (news₁ : List (Addr × Obj)), Fr h₀ L s₁.heap m → News h₀ L s₁.heap news₁ → AccL news₁ ca cd new p q → KeepL ca cd news news₁ → AllBare s₁.gens → s₁.os = s.os → Q .none s₁),
  wpAny (model PySem.Challenge.rw_wu0100_01.row.prog w) (ktrTop dp un gd cn cs L a ccd cl outer) (call (.ref 160) [.ref ca, .ref l]) Q E s := by
  intro w loose mean mg mb dp un gd cn cs a ccd cl outer A₀ base h₀ L m s Q E news ca cd its p q l new c B F X N T hk hdp hun A G hl hW hzn hret
  (refine AccL.elim A ?_; intro nd n ha h1 x1 x2 hcd ps1 t1 k1 ps2 t2 k2 W hz hp hq)
  refine reset_list B F X N T hk hdp hun (setL_upd ha nd) (g₂ := fun o o' => setL cd o' (setL ca o news)) (fun o₁ => setL_upd (setL_ne hcd (nd_ne nd hcd ha (Ne.symm acc_ini))) (by rw [setL_keys]; exact nd)) ha hcd (Nat.le_trans hz (by decide)) l new c hl (Nat.le_trans hzn (by decide)) fun n₁ y₁ h₁ tk₁ F₁ N₁ => ?_
  exact hret _ _ F₁ N₁ (A.addW hW hzn).setI (keepA.trans keepI) G rfl
end
section
open PySem PySem.Spec PySem.Calls PySem.W PyProof.Rows
set_option maxRecDepth 100000
set_option maxHeartbeats 0
theorem rows_S5_1 : True := by
  k_with_none
  w_top off
  k_with "z8" => ((try (case A => assumption)); (case B => k_asm); (case F => k_asm); (case X => k_asm); (case N => first | k_asm | exact cb_drop (by k_asm) (by intro p hp; repeat (first | exact hp | apply List.Mem.tail))); (case T => k_asm); (case hk => first | exact rfl | assumption); (case hdp => ktr_room); (case hun => ktr_units); (try (case G => assumption)))
  k_with "ze" => (refine AccL.elim2 (by assumption) ?_; intros)
  k_with "k_mem" => (assumption)
  k_with "k_ne" => (first | exact ne_mem1 (by with_reducible assumption) (by with_reducible assumption) | exact ne_mem2 (by with_reducible assumption) (by with_reducible assumption))
  k_with "execs cons" => (first | (k_here; k_gentoks) | ((try (rename Flow → Shared → Prop => qq; clear qq)); (try (rename Value → Shared → Prop => qq; clear qq)); refine wpAny_execs_cons ?_; (try dsimp only); k_fold))
  trivial

theorem rows_S5_2 : True := by
  k_with "k_updF" => (with_reducible assumption)
  k_with "k_inst" => (refine accI_news (by k_asm) (by k_mem) (by k_mem))
  k_with "getAttr ref" => (k_here; k_dflt (refine get_acc (by k_asm) (by k_asm) (by k_asm) (by k_mem) (by k_mem) (by k_is) (by k_is) (by k_is) (by k_get) (by k_handed) ?_; k_whole))
  k_with "getMethod ref" => (k_here; k_dflt (first | ((with_reducible show wpAny _ _ (getMethod (Value.ref _) (PySem.Str.ofString "append") _) _ _ _); refine method_acc_app (by k_asm) (by k_asm) (by k_asm) (by k_mem) (by k_mem) (by k_get) ?_; k_whole) | (refine method_acc_fn (by k_asm) (by k_asm) (by k_asm) (by k_mem) (by k_mem) (by k_is) (by k_is) (by k_get) ?_; k_whole) | ((with_reducible show wpAny _ _ (getMethod (Value.ref _) (PySem.Str.ofString "pop") _) _ _ _); refine sup_pop (by k_asm) (by k_asm) (by k_asm) (by k_mem) (by k_mem) ?_; k_whole; intro q' h' F' N' l1; (try k_lt l1); revert q' h' F' N' l1; intros) | ((with_reducible show wpAny _ _ (getMethod (Value.ref _) (PySem.Str.ofString "__len__") _) _ _ _); refine sup_len (by k_asm) (by k_asm) (by k_asm) (by k_mem) (by k_mem) ?_; k_whole; intro q' h' F' N' l1; (try k_lt l1); revert q' h' F' N' l1; intros) | ((with_reducible show wpAny _ _ (getMethod (Value.ref _) (PySem.Str.ofString "__init__") _) _ _ _); refine sup_init (by k_asm) (by k_asm) (by k_asm) (by k_mem) (by k_mem) ?_; k_whole; intro q' h' F' N' l1; (try k_lt l1); revert q' h' F' N' l1; intros)))
  k_with "call builtin:list.append" => (k_here; k_dflt (refine append_acc (by k_asm) (by k_asm) (by k_asm) (by k_updF) (by first | assumption | omega) ?_; k_whole; intro n' h' F' N'; (try dsimp only at N'); revert n' h' F' N'; intros))
  k_with "callWith ref" => (k_here; k_dflt ((with_reducible show wpAny _ _ (callWith _ (Value.ref _) [] (backTo _ (starEach [] _)) []) _ _ _); refine bm_callWith (by k_asm) (by k_mem) (by first | exact .inl rfl | exact .inr rfl) ?_; k_whole; (try dsimp only [List.nil_append])))
  k_with "call ref" => (k_here; k_dflt (first | (refine bm_call_len (by k_asm) (by k_asm) (by k_asm) (by k_mem) (by k_mem) ?_; k_whole) | (refine bm_call_init (by k_asm) (by k_asm) (by k_asm) (by k_mem) (by k_updF) ?_; k_whole; intro n' h' F' N'; (try dsimp only at N'); revert n' h' F' N'; intros) | (refine bm_call_pop (by k_asm) (by k_asm) (by k_asm) (by k_mem) (by k_updF) (by first | assumption | omega) (by assumption) ?_; k_whole; intro n' h' F' N'; (try dsimp only at N'); revert n' h' F' N'; intros)))
  k_with "wpAt" => ((fail_if_success ks_step "execs cons"); dsimp only; ks_step "execs cons"; refine ks_wpAt_execs_cons ?_)
  k_with "wpAt" => (ks_step "eval Call"; k_dflt (refine ks_wpAt_MethodCall ?_))
  k_with "k_ne" => (first | exact ne_mem1 (by with_reducible assumption) (by with_reducible assumption) | exact ne_mem1 (And.right (by with_reducible assumption)) (by with_reducible assumption) | exact ne_mem1 (And.right (And.right (by with_reducible assumption))) (by with_reducible assumption) | exact ne_mem1 (And.right (And.right (And.right (by with_reducible assumption)))) (by with_reducible assumption) | exact ne_mem1 (And.right (And.right (And.right (And.right (by with_reducible assumption))))) (by with_reducible assumption) | exact ne_mem1 (And.right (And.right (And.right (And.right (And.right (by with_reducible assumption)))))) (by with_reducible assumption) | exact ne_mem1 (And.right (And.right (And.right (And.right (And.right (And.right (by with_reducible assumption))))))) (by with_reducible assumption))
  k_with "subscriptTail" => (k_here; (with_reducible show wpAny _ _ (subscriptTail _ _ (Value.ref _) (Value.int _ _)) _ _ _); k_dflt (refine acc_itemTail (by k_asm) (by k_asm) (by k_asm) (by k_mem) (by first | assumption | omega) (by omega) (by assumption) (by with_unfolding_all rfl) ?_; k_whole))
  k_with "subscriptTail" => (k_here; (with_reducible show wpAny _ _ (subscriptTail _ _ (Value.ref _) (Value.ref _)) _ _ _); k_dflt (refine acc_sliceTail (by k_asm) (by k_asm) (by k_asm) (by k_mem) (by first | exact IsPart.none | exact IsPart.int _ _) (by first | exact IsPart.none | exact IsPart.int _ _) (by first | assumption | omega) (by with_unfolding_all rfl) ?_; k_whole; intro l' h' F' N' l1; (try k_lt l1); revert l' h' F' N' l1; intros))
  k_with "setItem ref" => (k_here; k_dflt (refine acc_sliceSet (by k_asm) (by k_asm) (by k_asm) (by k_updF) (by first | exact IsPart.none | exact IsPart.int _ _) (by first | exact IsPart.none | exact IsPart.int _ _) (by k_mem) (by first | assumption | omega) (by first | assumption | decide | (simp; done) | omega) ?_; k_whole; intro n' h' F' N'; (try dsimp only at N'); revert n' h' F' N'; intros))
  k_with "setAttr ref" => (k_here; k_dflt (refine set_acc (by k_asm) (by k_asm) (by k_asm) (by k_mem) (by k_is) (by k_is) (by k_get) (by k_put) (by k_upd) (by simp) ?_; k_whole; intro h' F' N'; (try dsimp only at N'); revert h' F' N'; intros))
  k_with "truthy ref" => (k_here; k_dflt (refine truthy_len (by k_asm) (by k_asm) (by k_inst) (by k_is) (by k_is) (by k_is) ?_; k_whole))
  k_with "call type:str" => (k_here; (with_reducible show wpAny _ _ (call (Value.type "str") [Value.ref _]) _ _ _); k_dflt (refine kso_call (by ktr_units) (by k_in) (by k_inst) (by k_is) (by k_is) ?_; k_whole))
  k_with "call ref" => (k_here; k_dflt ((with_reducible show wpAny _ _ (call (Value.ref 145) _ _) _ _ _); (apply len_A; walk_at "z8"; k_whole; intros; walk_at "ze"; (dsimp only [PySem.W.LenBack]; refine ⟨⟨by omega, by omega⟩, ?_⟩; try dsimp only))))
  k_with "call ref" => (k_here; k_dflt ((with_reducible show wpAny _ _ (call (Value.ref 152) _ _) _ _ _); (apply str_A; walk_at "z8"; k_whole; intros; walk_at "ze"; (try dsimp only [PySem.W.StrBack]))))
  k_with "execs cons" => (first | (k_here; k_gentoks) | ((try (rename Flow → Shared → Prop => qq; clear qq)); (try (rename Value → Shared → Prop => qq; clear qq)); refine wpAny_execs_cons ?_; (try dsimp only); k_fold))
  trivial
theorem onlyws_A : ∀ {w : World} {loose : List Str} {mean : ExcName → Option Value} {mg mb : Str → Option Value} {dp un : Nat} {gd : Option (List Code)} {cn : Str} {cs : Scope} {a : Addr} {ccd : Value} {cl : List (Str × Addr)} {outer : List Env} {A₀ : Around} {base h₀ : Heap} {L : Addr} {m : Str → Option Value} {s : Shared} {Q E : Value → Shared → Prop} {news : List (Addr × Obj)} {ca cd : Nat} {its : Array Value} {p q : Str}
  (B : Below A₀ base outer h₀) (F : Fr h₀ L s.heap m) (X : (fr.heap_1 w.params).In h₀) (N : News h₀ L s.heap news) (T : Top topProg loose mean mg mb h₀) (hk : cs.kind = .function) (hdp : dp + 12 < recursionLimit) (hun : un + 160 < cLine) (A : AccL news ca cd its p q) (G : AllBare s.gens) (hi : 1 ≤ its.size) (hpq : 1 ≤ p.length + q.length) (hsp : ∀ k, 1 ≤ k → Txt.isspace (Txt.join (Str.ofString "") (List.replicate k (p ++ q))) = false) (hret : ∀  (s₁ : Shared) (news₁ : List (Addr × Obj)), Fr h₀ L s₁.heap m → News h₀ L s₁.heap news₁ → AccL news₁ ca cd its p q → KeepL ca cd news news₁ → AllBare s₁.gens → s₁.os = s.os → Q (.bool false) s₁),
  wpAny (model PySem.Challenge.rw_wu0100_01.row.prog w) (ktrTop dp un gd cn cs L a ccd cl outer) (call (.ref 167) [.ref ca]) Q E s := by
  k_fill
  intro w loose mean mg mb dp un gd cn cs a ccd cl outer A₀ base h₀ L m s Q E news ca cd its p q B F X N T hk hdp hun A G hi hpq hsp hret
  refine wpAny_call ?_
  k_dflt (refine' code_def ?k1 ?k2 ?k3 ?k4 ?k5 ?kA ?kF ?kK ?k6 ?k7 ?k8 ?k9 ?kB ?_ ?c2 ?c3 ?c4 ?c5; (case kA => exact rfl); (case kF => exact rfl); (case kK => first | exact rfl | assumption); (case k1 => k_asm); (case k2 => k_asm); (case k3 => k_asm); (case k4 => k_asm); (case k5 => k_asm); (case k6 => k_is); (case k7 => k_is); (case k8 => ktr_room); (case k9 => first | exact BindsTo.of_eq rfl | exact binds_K (by k_in) rfl (by k_is) rfl rfl rfl); (case c5 => decide); (case kB => exact locs rfl); (case c2 => exact rfl); (case c3 => exact rfl); (case c4 => exact rfl); k_whole; intro g' L' h' FG' F' N' B' X' T'; (try dsimp only); (try k_lift B'); (try k_fold))
  (refine AccL.elim A ?_; intro nd n ha h1 x1 x2 hcd ps1 t1 k1 ps2 t2 k2 W hz hp hq)
  k_steps
  all_goals (try rw [hsp _ hi])
  all_goals first
    | (exfalso; simp only [bne_iff_ne, ne_eq, Bool.not_eq_true, bne_eq_false_iff_eq, Bool.not_eq_false'] at *; have hm := Nat.mul_le_mul hi hpq; omega)
    | (refine' hret  _ _ ?eF ?eN ?eA ?eK ?eG ?eO ; (case eF => k_asm); (case eN => k_asm); (case eA => assumption); (case eK => first | assumption | exact KeepL.rfl | exact KeepL.trans (by assumption) (by assumption) | exact KeepL.trans (by assumption) (KeepL.trans (by assumption) (by assumption)) | exact KeepL.trans (by assumption) (KeepL.trans (by assumption) (KeepL.trans (by assumption) (by assumption))) | exact KeepL.trans (by assumption) (KeepL.trans (by assumption) (KeepL.trans (by assumption) (KeepL.trans (by assumption) (by assumption))))); (case eG => assumption); (case eO => simp only [*]))
end
section
open PySem PySem.Spec PySem.Calls PySem.W PyProof.Rows
set_option maxRecDepth 100000
set_option maxHeartbeats 0
noncomputable abbrev fmtObj (mx : Int) (ln ca : Addr) (a1 a2 a3 a4 a5 a6 : Int) (t1 t2 t3 t4 t5 t6 u1 u2 u3 u4 : Tok) : Obj :=
  dictOf [⟨a1, .str (Str.ofString "_maxlen") t1, .int mx u1⟩, ⟨a2, .str (Str.ofString "_continuation_ws") t2, .str (Str.ofString " ") u2⟩, ⟨a3, .str (Str.ofString "_continuation_ws_len") t3, .int 1 u3⟩,
    ⟨a4, .str (Str.ofString "_splitchars") t4, .str (Str.ofString " ") u4⟩, ⟨a5, .str (Str.ofString "_lines") t5, .ref ln⟩, ⟨a6, .str (Str.ofString "_current_line") t6, .ref ca⟩] 6
structure FmtL (news : List (Addr × Obj)) (pa fd ca ln : Addr) (mx : Int) (lines : List Str) : Prop where
  hpa : (pa, instObj 94 fd) ∈ news
  hfd : ∃ a1 a2 a3 a4 a5 a6 t1 t2 t3 t4 t5 t6 u1 u2 u3 u4, (fd, fmtObj mx ln ca a1 a2 a3 a4 a5 a6 t1 t2 t3 t4 t5 t6 u1 u2 u3 u4) ∈ news
  hln : ∃ vs c, (ln, listOf vs c) ∈ news ∧ StrsAre vs.toList lines
  hz : lines.length ≤ 100
theorem FmtL.elim {news : List (Addr × Obj)} {pa fd ca ln : Addr} {mx : Int} {lines : List Str} {C : Prop} (M : FmtL news pa fd ca ln mx lines) (k : (pa, instObj 94 fd) ∈ news → ∀ a1 a2 a3 a4 a5 a6 t1 t2 t3 t4 t5 t6 u1 u2 u3 u4, (fd, fmtObj mx ln ca a1 a2 a3 a4 a5 a6 t1 t2 t3 t4 t5 t6 u1 u2 u3 u4) ∈ news → ∀ vs c, (ln, listOf vs c) ∈ news → StrsAre vs.toList lines → lines.length ≤ 100 → C) : C := by
  obtain ⟨hpa, ⟨a1, a2, a3, a4, a5, a6, y1, y2, y3, y4, y5, y6, u1, u2, u3, u4, hfd⟩, ⟨vs, c, hln, hS⟩, hzl⟩ := M
  exact k hpa a1 a2 a3 a4 a5 a6 y1 y2 y3 y4 y5 y6 u1 u2 u3 u4 hfd vs c hln hS hzl
noncomputable def KeepP (ca cd ln : Addr) (news news' : List (Addr × Obj)) : Prop := ∀ y ∈ news, y.1 ≠ ca → y.1 ≠ cd → y.1 ≠ 140 → y.1 ≠ 147 → y.1 ≠ ln → y ∈ news'
theorem KeepP.trans {n1 n2 n3 : List (Addr × Obj)} {ca cd ln : Addr} (K : KeepP ca cd ln n1 n2) (K' : KeepP ca cd ln n2 n3) : KeepP ca cd ln n1 n3 := fun y hy a b c d e => K' y (K y hy a b c d e) a b c d e
theorem KeepP.rfl {n1 : List (Addr × Obj)} {ca cd ln : Addr} : KeepP ca cd ln n1 n1 := fun _ hy _ _ _ _ _ => hy
theorem KeepP.cons {news news' : List (Addr × Obj)} {ca cd ln : Addr} {e : Addr × Obj} (K : KeepP ca cd ln news news') : KeepP ca cd ln news (e :: news') := fun y hy a b c d f => .tail _ (K y hy a b c d f)
theorem KeepL.toP {news news' : List (Addr × Obj)} {ca cd ln : Addr} (K : KeepL ca cd news news') : KeepP ca cd ln news news' := fun y hy a b c d _ => K y hy a b c d
section
variable {news news' : List (Addr × Obj)} {ca cd pa fd ln : Addr} {its its' : Array Value} {p q p' q' : Str} {mx : Int} {lines : List Str}
theorem dict_ne {es es' : List DictEntry} {k k' : Nat} (h : es.length ≠ es'.length) : dictOf es k ≠ dictOf es' k' := fun e => by
  have := congrArg Obj.data e
  simp only [Data.dict.injEq] at this
  have h1 := congrArg Array.size this.1
  simp at h1
  exact h h1
theorem FmtL.keep (A : AccL news ca cd its p q) (M : FmtL news pa fd ca ln mx lines) (K : KeepL ca cd news news') : FmtL news' pa fd ca ln mx lines := by
  (refine AccL.elim A ?_; intro nd n ha h1 x1 x2 hcd ps1 t1 k1 ps2 t2 k2 W hz hp hq)
  (refine FmtL.elim M ?_; intro hpa a1 a2 a3 a4 a5 a6 s1 s2 s3 s4 s5 s6 u1 u2 u3 u4  hfd vs c hln hS hzl)
  refine ⟨K _ hpa (nd_ne nd hpa ha (cls_ne (by simp))) (nd_ne nd hpa hcd (cls_ne (by simp))) (nd_ne nd hpa t1 (cls_ne (by simp))) (nd_ne nd hpa t2 (cls_ne (by simp))),
    ⟨a1, a2, a3, a4, a5, a6, s1, s2, s3, s4, s5, s6, u1, u2, u3, u4, K _ hfd (nd_ne nd hfd ha (cls_ne (by simp))) (nd_ne nd hfd hcd (dict_ne (by simp))) (nd_ne nd hfd t1 (cls_ne (by simp))) (nd_ne nd hfd t2 (cls_ne (by simp)))⟩,
    ⟨vs, c, K _ hln (nd_ne nd hln ha (cls_ne (by simp))) (nd_ne nd hln hcd (cls_ne (by simp))) (nd_ne nd hln t1 (cls_ne (by simp))) (nd_ne nd hln t2 (cls_ne (by simp))), hS⟩, hzl⟩
theorem AccL.setO (A : AccL news ca cd its p q) {x : Addr} {o o' : Obj} (hx : (x, o) ∈ news) (h1 : x ≠ ca) (h2 : x ≠ cd) (h3 : x ≠ 140) (h4 : x ≠ 147) (h5 : o.cls ≠ .type "tuple") : AccL (setL x o' news) ca cd its p q := by
  (refine AccL.elim A ?_; intro nd n ha h1' x1 x2 hcd ps1 t1 k1 ps2 t2 k2 W hz hp hq)
  exact ⟨(by rw [setL_keys]; exact nd), ⟨n, setL_ne ha (Ne.symm h1)⟩, ⟨h1', x1, x2, setL_ne hcd (Ne.symm h2)⟩, ⟨ps1, setL_ne t1 (Ne.symm h3), k1⟩, ⟨ps2, setL_ne t2 (Ne.symm h4), k2⟩,
    W.mono fun T ka kb hm => setL_ne hm (nd_ne nd hm hx (cls_ne (Ne.symm h5))), hz, hp, hq⟩
theorem AccL.nil (A : AccL news ca cd #[] p q) (hp : p'.length ≤ 1000) (hq : q'.length ≤ 1000) : AccL news ca cd #[] p' q' := by
  obtain ⟨nd, ha, hcd, t1, t2, W, hz, _, _⟩ := A
  exact ⟨nd, ha, hcd, t1, t2, words_nil, hz, hp, hq⟩
theorem FmtL.keepK (K : KeepL ca cd news news') (A : AccL news ca cd its p q) (M : FmtL news pa fd ca ln mx lines) : FmtL news' pa fd ca ln mx lines := FmtL.keep A M K
variable {w : World} {A : Around} {E : Value → Shared → Prop} {s : Shared} {h₀ : Heap} {L : Addr} {m : Str → Option Value}
theorem strsAre_snoc {vs : List Value} {ys : List Str} {y : Str} {t : Tok} (h : StrsAre vs ys) : StrsAre (vs ++ [.str y t]) (ys ++ [y]) := by
  induction h with
  | nil => exact .cons _ _ .nil
  | cons z u _ ih => exact .cons z u ih
theorem strsAre_len {vs : List Value} {ys : List Str} (h : StrsAre vs ys) : vs.length = ys.length := by
  induction h with
  | nil => rfl
  | cons z u _ ih => simp [ih]
theorem app_P {y : Str} {t : Tok} {Q : Value → Shared → Prop} (F : Fr h₀ L s.heap m) (N : News h₀ L s.heap news) (Ac : AccL news ca cd its p q) (M : FmtL news pa fd ca ln mx lines) (hz : lines.length ≤ 99)
    (h : ∀ news₁ h', Fr h₀ L h' m → News h₀ L h' news₁ → AccL news₁ ca cd its p q → FmtL news₁ pa fd ca ln mx (lines ++ [y]) → KeepP ca cd ln news news₁ → Q .none { s with heap := h' }) : wpAny (model PG w) A (call (.builtin "list.append") [.ref ln, .str y t]) Q E s := by
  (refine AccL.elim Ac ?_; intro nd n ha h1 x1 x2 hcd ps1 t1 k1 ps2 t2 k2 W hzz hp hq)
  (refine FmtL.elim M ?_; intro hpa a1 a2 a3 a4 a5 a6 s1 s2 s3 s4 s5 s6 u1 u2 u3 u4  hfd vs c hln hS hzl)
  have hvs : vs.size = lines.length := by rw [← strsAre_len hS, Array.length_toList]
  refine append_K F N (updF_upd (setL_upd hln nd)) (fun h' F' N' => h _ h' F' N' (Ac.setO hln (nd_ne nd hln ha (cls_ne (by simp))) (nd_ne nd hln hcd (cls_ne (by simp))) (nd_ne nd hln t1 (cls_ne (by simp))) (nd_ne nd hln t2 (cls_ne (by simp))) (by simp)) ?_ fun y hy _ _ _ _ hl => setL_ne hy hl) (by rw [sizeLine_eq]; (first | lia | omega))
  refine ⟨setL_ne hpa (nd_ne nd hpa hln (cls_ne (by simp))), ⟨a1, a2, a3, a4, a5, a6, s1, s2, s3, s4, s5, s6, u1, u2, u3, u4, setL_ne hfd (nd_ne nd hfd hln (cls_ne (by simp)))⟩, ⟨vs.push (.str y t), c + 1, setL_mem hln, ?_⟩, by simp; (first | lia | omega)⟩
  rw [Array.toList_push]
  exact strsAre_snoc hS
theorem get_lines {Q : Value × List Value → Shared → Prop} {pl : Sem Bool} (N : News h₀ L s.heap news) (M : FmtL news pa fd ca ln mx lines) (h : Q (.builtin "list.append", [.ref ln]) s) : wpAny (model PG w) A (getMethod (.ref ln) (Str.ofString "append") pl) Q E s := by
  obtain ⟨vs, c, hln, hS⟩ := M.hln
  exact listMethod_K N hln PySem.F.slot_list_append PySem.F.type_list_append h
theorem row_eq {lines : List Str} {a b : Nat} {x y : Str} (h : a = b) : lines ++ [Txt.join y (List.replicate a x)] = lines ++ [Txt.join y (List.replicate b x)] := by rw [h]
theorem neq_q {p q p' q' : Str} (h : q ≠ q') : (!(decide (p = p') && decide (q = q'))) = true := by simp [h]
theorem neq_p {p q p' q' : Str} (h : p ≠ p') : (!(decide (p = p') && decide (q = q'))) = true := by simp [h]
theorem sh2 {p q : Str} (hp : PyData.strOk p = true) (hq : PyData.strOk q = true) : SeqAt.shaped (.tuple [.str p, .str q]) = true := by simp [SeqAt.shaped, PyData.canLay0, PyData.canLayAll0, PyData.depth, PyData.depthAll, hp, hq]
theorem ne_tup2 {T1 T2 : Addr} {p q p' q' : Str} {ka kb kc kd : Tok} {b : Bool} {Q : Value → Shared → Prop} (N : News h₀ L s.heap news) (h1 : (T1, tup2 (.str p ka) (.str q kb)) ∈ news) (h2 : (T2, tup2 (.str p' kc) (.str q' kd)) ∈ news) (hu : A.units + 64 < cLine) (hp : PyData.strOk p = true) (hq : PyData.strOk q = true) (hp' : PyData.strOk p' = true) (hq' : PyData.strOk q' = true)
    (hb : (!(decide (p = p') && decide (q = q'))) = b) (h : Q (.bool b) s) : wpAny (model PG w) A (compareOp .NotEq (.ref T1) (.ref T2)) Q E s := by
  refine ne_dataH (reads_tuple_at (News.get N h1) rfl rfl (.cons (.str _ _) (.cons (.str _ _) .nil))) (reads_tuple_at (News.get N h2) rfl rfl (.cons (.str _ _) (.cons (.str _ _) .nil))) (sh2 hp hq) (sh2 hp' hq') hu ?_
  have e : (!(PyData.eqv (.tuple [.str p, .str q]) (.tuple [.str p', .str q']))) = b := by
    rw [← hb]
    simp only [PyData.eqv, PyData.eqvAll, Bool.and_true]
    by_cases h : p = p' <;> by_cases h' : q = q' <;> simp [h, h']
  rw [e]
  exact h
end
end
section
open PySem PySem.Spec PySem.Calls PySem.W PyProof.Rows
set_option maxRecDepth 100000
set_option maxHeartbeats 0
section
variable {w : World} {A : Around} {E : Value → Shared → Prop} {s : Shared} {x cd L : Addr} {its : Array Value} {n : Nat} {env : Env} {h₀ : Heap} {m : Str → Option Value} {news : List (Addr × Obj)}
theorem StarCall {o e : Expr} {name : Str} {apos pos p : Pos} {Q : Value → Shared → Prop}
    (h : wpAny (model PG w) A (eval o env) (fun ov s₁ => wpAny (model PG w) A (getAttr ov name true) (fun f s₂ => wpAny (model PG w) A (callWith pos f [] (backTo pos (starEach [.Starred e p] env)) []) Q E s₂) E s₁) E s)
    (he : eval (.Call (.Attribute o name apos) [.Starred e p] [] pos) env = (do
      let ov ← eval o env
      standAt apos.atName
      let (f, first) ← holding [ov] (do pure (← getAttr ov name true, []))
      callWith pos f first (backTo pos (starEach [.Starred e p] env)) [])) :
    wpAny (model PG w) A (eval (.Call (.Attribute o name apos) [.Starred e p] [] pos) env) Q E s := by
  rw [he]
  exact wpAny_bind (wpAny_mono h (fun ov s₁ h₁ => wpAny_bind (wpAny_standAt (wpAny_bind (wpAny_holding (wpAny_bind (wpAny_mono h₁ (fun fx s₂ h₂ => wpAny_pure h₂) fun _ _ x => x)))))) fun _ _ x => x)
theorem acc_bind {f : Addr} {od : Option Obj} {ox : Obj} {name : Str} {expr : Bool} {Q : Value → Shared → Prop} (X : (fr.heap_1 w.params).In s.heap) (I : InstAt s.heap x ox 178 od) (hx : s.heap.get? x = some (accObj cd its n))
    (hf : findObj (fr.heap_1 w.params) 178 od name = some (.bind (.builtin "function.__get__") (.ref f))) (hfn : isFn (fr.heap_1 w.params) (.ref f) = true) (h : Q (.ref s.heap.objs.size) { s with heap := s.heap.push (methodObj (.ref f) (.ref x)), toks := s.toks + 1 }) : wpAny (model PG w) A (getAttr (.ref x) name expr) Q E s := by
  obtain ⟨hh', g, d, t, os⟩ := s
  have L0 := I.type (M := model PG w)
  have L1 := looks_findIn (M := model PG w) X (acc_plain w)
  have L2 := looks_findIn (M := model PG w) X (acc_noga w)
  have L3 := looks_find (M := model PG w) X I hf
  unfold getAttr getAttrBy
  refine wpAny_bind (wpAny_mkText (wpAny_holding (wpAny_bind (L0.at (wpAny_bind (L1.at ?_))))))
  show wpAny _ _ (getAttrByItsOwn (.ref x) (.str name t) (.ref 178) (.builtin "list.__getattribute__") true expr) _ _ _
  unfold getAttrByItsOwn
  refine wpAny_bind (m := hookBefore (.ref 178)) ?_
  show wpAny _ _ (typeLookup (.ref 178) "__getattr__") _ _ _
  refine L2.at ?_
  refine wpAny_bind (wpAny_attempt (wpAny_holding ?_))
  have e : callGetattribute (.ref x) (.str name t) (.builtin "list.__getattribute__") expr = boundAndCalled (.builtin "list.__getattribute__") (.ref x) (.str name t) := by
    unfold callGetattribute
    cases expr <;> rfl
  rw [e]
  unfold boundAndCalled
  have eb : bindSpecial (.builtin "list.__getattribute__") (.ref x) = pure (.builtin "list.__getattribute__", [.ref x]) := by kernel_rfl
  rw [eb]
  refine wpAny_bind (wpAny_pure ?_)
  refine call_bi (b := Builtin.«object.__getattribute__») (.inl (by decide +kernel)) (by decide +kernel : splitId "list.__getattribute__" = some ("list", "__getattribute__")) (by decide +kernel) F.entry_list_ga (by unfold argsOk; kernel_rfl) (acc_inst X hx) ?_
  refine wpAny_bind (wpAny_pure (wpAny_bind (wpAny_pure (wpAny_bind (L0.at (wpAny_bind (L3.at ?_)))))))
  show wpAny _ _ (Builtin.ObjectAttr.bindTo (.builtin "function.__get__") (.ref f) (.ref x) (.ref 178)) _ _ _
  show wpAny _ _ (holding [.ref f] (call (.builtin "function.__get__") [.ref f, .ref x, .ref 178]) >>= ret) _ _ _
  refine wpAny_bind (wpAny_holding (wpAny_call (fn_get X (beq_iff_eq.mp hfn) ?_)))
  refine wpAny_pure ⟨_, rfl, ?_⟩
  exact handed_on rfl h
theorem bind_acc {es : List DictEntry} {k : Nat} {f : Addr} {name : Str} {expr : Bool} {Q : Value → Shared → Prop} (F : Fr h₀ L s.heap m) (X₀ : (fr.heap_1 w.params).In h₀) (N : News h₀ L s.heap news) (hx : (x, accObj cd its n) ∈ news) (hc : (cd, dictOf es k) ∈ news)
    (hh : hasDictIn (fr.heap_1 w.params) 178 = true) (ha : findIn (fr.heap_1 w.params) (.ref 178) name = some (some (.ref f))) (hf : isFn (fr.heap_1 w.params) (.ref f) = true)
    (hgf : specialIn (fr.heap_1 w.params) (.ref f) "__get__" = some (some (.builtin "function.__get__"))) (ht : takesIn (fr.heap_1 w.params) (.ref f) = some false) (hcn : copiedNames.contains name = false) (hl : getL name es = some none)
    (h : ∀ q h', Fr h₀ L h' m → News h₀ L h' ((q, methodObj (.ref f) (.ref x)) :: news) → (∀ p ∈ news, p.1 < q) → Q (.ref q) { s with heap := h', toks := s.toks + 1 }) : wpAny (model PG w) A (getAttr (.ref x) name expr) Q E s :=
  acc_bind (X₀.keeps F.keep) (accI (N _ hx).1 (N _ hc).1) (N _ hx).1 (findObj_fn hh ha hgf ht hcn (by show lookIn name (dictOf es k) = _; rw [lookIn_dict, hl])) hf (h s.heap.objs.size _ (F.push _) (N.push F _) fun p hp => Heap.lt_size (N p hp).1)
theorem star_meth {q f : Addr} {self : Value} {e : Expr} {p pos : Pos} {Q : Value → Shared → Prop} (N : News h₀ L s.heap news) (hq : (q, methodObj (.ref f) self) ∈ news) (hf : fnIn (fr.heap_1 w.params) f = true)
    (h : wpAny (model PG w) A (eval e env) (fun v s₁ => StarOf (model PG w) A E v (fun vs s₂ => MethP (fr.heap_1 w.params) q f self s₂.heap ∧ wpAny (model PG w) A (call (.ref q) ([] ++ vs)) Q E s₂) s₁) E s)
    (he : starEach [.Starred e p] env = [(true, eval e env)] := by rfl) :
    wpAny (model PG w) A (callWith pos (.ref q) [] (backTo pos (starEach [.Starred e p] env)) []) Q E s := by
  rw [he]
  exact ks_call rfl (keeps_M hf) (ks_lone h)
end
end
section
open PySem PySem.Spec PySem.Calls PySem.W PyProof.Rows
set_option maxRecDepth 100000
set_option maxHeartbeats 0
theorem rows_S7_1 : True := by
  k_with_none
  w_top off
  k_with "z8" => ((try (case A => assumption)); (case B => k_asm); (case F => k_asm); (case X => k_asm); (case N => first | k_asm | exact cb_drop (by k_asm) (by intro p hp; repeat (first | exact hp | apply List.Mem.tail))); (case T => k_asm); (case hk => first | exact rfl | assumption); (case hdp => ktr_room); (case hun => ktr_units); (try (case G => assumption)))
  k_with "ze" => (refine AccL.elim2 (by assumption) ?_; intros)
  k_with "zf" => (refine FmtL.elim (by assumption) ?_; intros)
  k_with "zk" => (have zq := FmtL.keepK (by assumption) (by assumption) (by assumption); revert zq; intro _)
  k_with "k_mem" => (assumption)
  k_with "k_ne" => (first | exact ne_mem1 (by with_reducible assumption) (by with_reducible assumption) | exact ne_mem2 (by with_reducible assumption) (by with_reducible assumption))
  k_with "execs cons" => (first | (k_here; k_gentoks) | ((try (rename Flow → Shared → Prop => qq; clear qq)); (try (rename Value → Shared → Prop => qq; clear qq)); refine wpAny_execs_cons ?_; (try dsimp only); k_fold))
  trivial

theorem rows_S7_2 : True := by
  k_with "k_updF" => (with_reducible assumption)
  k_with "k_inst" => (refine accI_news (by k_asm) (by k_mem) (by k_mem))
  k_with "getAttr ref" => (k_here; k_dflt (refine get_acc (by k_asm) (by k_asm) (by k_asm) (by k_mem) (by k_mem) (by k_is) (by k_is) (by k_is) (by k_get) (by k_handed) ?_; k_whole))
  k_with "getMethod ref" => (k_here; k_dflt (first | ((with_reducible show wpAny _ _ (getMethod (Value.ref _) (PySem.Str.ofString "append") _) _ _ _); refine method_acc_app (by k_asm) (by k_asm) (by k_asm) (by k_mem) (by k_mem) (by k_get) ?_; k_whole) | (refine method_acc_fn (by k_asm) (by k_asm) (by k_asm) (by k_mem) (by k_mem) (by k_is) (by k_is) (by k_get) ?_; k_whole) | ((with_reducible show wpAny _ _ (getMethod (Value.ref _) (PySem.Str.ofString "pop") _) _ _ _); refine sup_pop (by k_asm) (by k_asm) (by k_asm) (by k_mem) (by k_mem) ?_; k_whole; intro q' h' F' N' l1; (try k_lt l1); revert q' h' F' N' l1; intros) | ((with_reducible show wpAny _ _ (getMethod (Value.ref _) (PySem.Str.ofString "__len__") _) _ _ _); refine sup_len (by k_asm) (by k_asm) (by k_asm) (by k_mem) (by k_mem) ?_; k_whole; intro q' h' F' N' l1; (try k_lt l1); revert q' h' F' N' l1; intros) | ((with_reducible show wpAny _ _ (getMethod (Value.ref _) (PySem.Str.ofString "__init__") _) _ _ _); refine sup_init (by k_asm) (by k_asm) (by k_asm) (by k_mem) (by k_mem) ?_; k_whole; intro q' h' F' N' l1; (try k_lt l1); revert q' h' F' N' l1; intros)))
  k_with "call builtin:list.append" => (k_here; k_dflt (refine append_acc (by k_asm) (by k_asm) (by k_asm) (by k_updF) (by first | assumption | (first | lia | omega)) ?_; k_whole; intro n' h' F' N'; (try dsimp only at N'); revert n' h' F' N'; intros))
  k_with "callWith ref" => (k_here; k_dflt ((with_reducible show wpAny _ _ (callWith _ (Value.ref _) [] (backTo _ (starEach [] _)) []) _ _ _); refine bm_callWith (by k_asm) (by k_mem) (by first | exact .inl rfl | exact .inr rfl) ?_; k_whole; (try dsimp only [List.nil_append])))
  k_with "call ref" => (k_here; k_dflt (first | (refine bm_call_len (by k_asm) (by k_asm) (by k_asm) (by k_mem) (by k_mem) ?_; k_whole) | (refine bm_call_init (by k_asm) (by k_asm) (by k_asm) (by k_mem) (by k_updF) ?_; k_whole; intro n' h' F' N'; (try dsimp only at N'); revert n' h' F' N'; intros) | (refine bm_call_pop (by k_asm) (by k_asm) (by k_asm) (by k_mem) (by k_updF) (by first | assumption | (first | lia | omega)) (by assumption) ?_; k_whole; intro n' h' F' N'; (try dsimp only at N'); revert n' h' F' N'; intros)))
  k_with "wpAt" => ((fail_if_success ks_step "execs cons"); dsimp only; ks_step "execs cons"; refine ks_wpAt_execs_cons ?_)
  k_with "wpAt" => (ks_step "eval Call"; k_dflt (refine ks_wpAt_MethodCall ?_))
  k_with "k_ne" => (first | exact ne_mem1 (by with_reducible assumption) (by with_reducible assumption) | exact ne_mem1 (And.right (by with_reducible assumption)) (by with_reducible assumption) | exact ne_mem1 (And.right (And.right (by with_reducible assumption))) (by with_reducible assumption) | exact ne_mem1 (And.right (And.right (And.right (by with_reducible assumption)))) (by with_reducible assumption) | exact ne_mem1 (And.right (And.right (And.right (And.right (by with_reducible assumption))))) (by with_reducible assumption) | exact ne_mem1 (And.right (And.right (And.right (And.right (And.right (by with_reducible assumption)))))) (by with_reducible assumption) | exact ne_mem1 (And.right (And.right (And.right (And.right (And.right (And.right (by with_reducible assumption))))))) (by with_reducible assumption))
  k_with "subscriptTail" => (k_here; (with_reducible show wpAny _ _ (subscriptTail _ _ (Value.ref _) (Value.int _ _)) _ _ _); k_dflt (refine acc_itemTail (by k_asm) (by k_asm) (by k_asm) (by k_mem) (by first | assumption | (first | lia | omega)) (by (first | lia | omega)) (by assumption) (by with_unfolding_all rfl) ?_; k_whole))
  k_with "subscriptTail" => (k_here; (with_reducible show wpAny _ _ (subscriptTail _ _ (Value.ref _) (Value.ref _)) _ _ _); k_dflt (refine acc_sliceTail (by k_asm) (by k_asm) (by k_asm) (by k_mem) (by first | exact IsPart.none | exact IsPart.int _ _) (by first | exact IsPart.none | exact IsPart.int _ _) (by first | assumption | (first | lia | omega)) (by with_unfolding_all rfl) ?_; k_whole; intro l' h' F' N' l1; (try k_lt l1); revert l' h' F' N' l1; intros))
  k_with "setItem ref" => (k_here; k_dflt (refine acc_sliceSet (by k_asm) (by k_asm) (by k_asm) (by k_updF) (by first | exact IsPart.none | exact IsPart.int _ _) (by first | exact IsPart.none | exact IsPart.int _ _) (by k_mem) (by first | assumption | (first | lia | omega)) (by first | assumption | decide | (simp; done) | (first | lia | omega)) ?_; k_whole; intro n' h' F' N'; (try dsimp only at N'); revert n' h' F' N'; intros))
  k_with "setAttr ref" => (k_here; k_dflt (refine set_acc (by k_asm) (by k_asm) (by k_asm) (by k_mem) (by k_is) (by k_is) (by k_get) (by k_put) (by k_upd) (by simp) ?_; k_whole; intro h' F' N'; (try dsimp only at N'); revert h' F' N'; intros))
  k_with "execs cons" => (first | (k_here; k_gentoks) | ((try (rename Flow → Shared → Prop => qq; clear qq)); (try (rename Value → Shared → Prop => qq; clear qq)); refine wpAny_execs_cons ?_; (try dsimp only); k_fold))
  trivial
theorem pushC_spec : ∀ {w : World} {loose : List Str} {mean : ExcName → Option Value} {mg mb : Str → Option Value} {dp un : Nat} {gd : Option (List Code)} {cn : Str} {cs : Scope} {a : Addr} {ccd : Value} {cl : List (Str × Addr)} {outer : List Env} {A₀ : Around} {base h₀ : Heap} {L : Addr} {m : Str → Option Value} {s : Shared} {Q E : Value → Shared → Prop} {news : List (Addr × Obj)} {g : Obj → List (Addr × Obj)} {ca cd : Nat} {its : Array Value} {n : Nat} {h1 : Int} {x1 x2 : Tok} {v1 v2 : Value}
  (B : Below A₀ base outer h₀) (F : Fr h₀ L s.heap m) (X : (fr.heap_1 w.params).In h₀) (N : News h₀ L s.heap news) (T : Top topProg loose mean mg mb h₀) (hk : cs.kind = .function) (hdp : dp + 2 < recursionLimit) (hun : un + 24 < cLine) (U : UpdF ca (accObj cd its n) news g) (ha : (ca, accObj cd its n) ∈ news) (hcd : (cd, dictOf [⟨h1, .str (Str.ofString "_initial_size") x1, .int 0 x2⟩] 1) ∈ news) (hz : its.size ≤ 1000) (hret : ∀ tt n₁ h₁ tk₁, Fr h₀ L h₁ m → News h₀ L h₁ ((tt, { cls := .type "tuple", data := .seq #[v1, v2] }) :: g (accObj cd (its.push (.ref tt)) n₁)) → (∀ p ∈ news, p.1 < tt) → Q .none { s with heap := h₁, toks := tk₁ }),
  codeAny (model PySem.Challenge.rw_wu0100_01.row.prog w) (ktrTop dp un gd cn cs L a ccd cl outer) (.call (.ref 122) ⟨[.ref ca, v1, v2], []⟩) (fun r s' => match r with | .ok (.ret v) => Q v s' | .ok _ => False | .error e => E e s') s := by
  k_fill
  intro w loose mean mg mb dp un gd cn cs a ccd cl outer A₀ base h₀ L m s Q E news g ca cd its n h1 x1 x2 v1 v2 B F X N T hk hdp hun U ha hcd hz hret
  k_dflt (refine' code_def ?k1 ?k2 ?k3 ?k4 ?k5 ?kA ?kF ?kK ?k6 ?k7 ?k8 ?k9 ?kB ?_ ?c2 ?c3 ?c4 ?c5; (case kA => exact rfl); (case kF => exact rfl); (case kK => first | exact rfl | assumption); (case k1 => k_asm); (case k2 => k_asm); (case k3 => k_asm); (case k4 => k_asm); (case k5 => k_asm); (case k6 => k_is); (case k7 => k_is); (case k8 => ktr_room); (case k9 => exact BindsTo.of_eq rfl); (case c5 => decide); (case kB => exact locs rfl); (case c2 => exact rfl); (case c3 => exact rfl); (case c4 => exact rfl); k_whole; intro g' L' h' FG' F' N' B' X' T'; (try dsimp only); (try k_lift B'); (try k_fold))
  k_steps
  all_goals exact hret _ _ _ _ (by k_asm) (by k_asm) (by first | assumption | exact allLt_all _ (by assumption))
theorem pushC_A : ∀ {w : World} {loose : List Str} {mean : ExcName → Option Value} {mg mb : Str → Option Value} {dp un : Nat} {gd : Option (List Code)} {cn : Str} {cs : Scope} {a : Addr} {ccd : Value} {cl : List (Str × Addr)} {outer : List Env} {A₀ : Around} {base h₀ : Heap} {L : Addr} {m : Str → Option Value} {s : Shared} {Q E : Value → Shared → Prop} {news : List (Addr × Obj)} {ca cd : Nat} {its : Array Value} {p q : Str} {ka kb : Tok}
  (B : Below A₀ base outer h₀) (F : Fr h₀ L s.heap m) (X : (fr.heap_1 w.params).In h₀) (N : News h₀ L s.heap news) (T : Top topProg loose mean mg mb h₀) (hk : cs.kind = .function) (hdp : dp + 2 < recursionLimit) (hun : un + 24 < cLine) (A : AccL news ca cd its p q) (G : AllBare s.gens) (hz1 : its.size ≤ 99) (hret : ∀ (its' : Array Value) (s₁ : Shared) (news₁ : List (Addr × Obj)), Fr h₀ L s₁.heap m → News h₀ L s₁.heap news₁ → AccL news₁ ca cd its' p q → KeepL ca cd news news₁ → AllBare s₁.gens → s₁.os = s.os → its'.size = its.size + 1 → Q .none s₁),
  codeAny (model PySem.Challenge.rw_wu0100_01.row.prog w) (ktrTop dp un gd cn cs L a ccd cl outer) (.call (.ref 122) ⟨[.ref ca, .str p ka, .str q kb], []⟩) (fun r s' => match r with | .ok (.ret v) => Q v s' | .ok _ => False | .error e => E e s') s := by
  intro w loose mean mg mb dp un gd cn cs a ccd cl outer A₀ base h₀ L m s Q E news ca cd its p q ka kb B F X N T hk hdp hun A G hz1 hret
  (refine AccL.elim A ?_; intro nd n ha h1 x1 x2 hcd ps1 t1 k1 ps2 t2 k2 W hz hp hq)
  refine pushC_spec B F X N T hk hdp hun (setL_upd ha nd) ha hcd (Nat.le_trans hz (by decide)) fun tt n₁ h₁ tk₁ F₁ N₁ hlt => ?_
  have hne : ((tt, tup2 (.str p ka) (.str q kb)) : Addr × Obj).1 ≠ ca := fun e => by
    have h3 : @LT.lt Nat _ ca tt := hlt _ ha
    exact Nat.lt_irrefl ca (by rw [show tt = ca from e] at h3; exact h3)
  have A1 := A.cons (x := tt) (o := tup2 (.str p ka) (.str q kb)) hlt
  have A2 := A1.addW (n := n₁) (its := its.push (.ref tt)) (word_lt (W.mono fun _ _ _ h => .tail _ h) (.head _)) (by simp; (first | lia | omega))
  rw [setL_cons hne] at A2
  exact hret (its.push (.ref tt)) _ _ F₁ N₁ A2 keepA.cons G rfl (by simp)
theorem rows_S7_3 : True := by
  k_with "k_mem" => (first | with_reducible assumption | with_reducible exact List.Mem.head _ | with_reducible exact List.Mem.tail _ (by assumption) | with_reducible exact List.Mem.tail _ (List.Mem.tail _ (by assumption)) | with_reducible exact List.Mem.tail _ (List.Mem.tail _ (List.Mem.tail _ (by assumption))))
  k_with "truthy ref" => (k_here; k_dflt (refine truthy_len (by k_asm) (by k_asm) (by k_inst) (by k_is) (by k_is) (by k_is) ?_; k_whole))
  k_with "call type:str" => (k_here; (with_reducible show wpAny _ _ (call (Value.type "str") [Value.ref _]) _ _ _); k_dflt (refine kso_call (by ktr_units) (by k_in) (by k_inst) (by k_is) (by k_is) ?_; k_whole))
  k_with "call ref" => (k_here; k_dflt ((with_reducible show wpAny _ _ (call (Value.ref 145) _ _) _ _ _); (apply len_A; walk_at "z8"; k_whole; intros; walk_at "ze"; walk_at "zk"; walk_at "zf"; (dsimp only [PySem.W.LenBack]; refine ⟨⟨by (first | lia | omega), by (first | lia | omega)⟩, ?_⟩; try dsimp only))))
  k_with "call ref" => (k_here; k_dflt ((with_reducible show wpAny _ _ (call (Value.ref 152) _ _) _ _ _); (apply str_A; walk_at "z8"; k_whole; intros; walk_at "ze"; walk_at "zk"; walk_at "zf"; (try dsimp only [PySem.W.StrBack]))))
  k_with "call ref" => (k_here; k_dflt ((with_reducible show wpAny _ _ (call (Value.ref 122) _ _) _ _ _); (apply push_A; walk_at "z8"; (case hz1 => (first | lia | omega)); k_whole; intros; walk_at "ze"; walk_at "zk"; walk_at "zf")))
  k_with "call ref" => (k_here; k_dflt ((with_reducible show wpAny _ _ (call (Value.ref 138) _ _) _ _ _); (apply pop_A; walk_at "z8"; (case hpos => (first | lia | omega)); k_whole; intros; walk_at "ze"; walk_at "zk"; walk_at "zf")))
  k_with "call ref" => (k_here; k_dflt ((with_reducible show wpAny _ _ (call (Value.ref 160) _ _) _ _ _); (apply reset_A; walk_at "z8"; k_whole; intros; walk_at "ze"; walk_at "zk"; walk_at "zf")))
  k_with "call ref" => (k_here; k_dflt ((with_reducible show wpAny _ _ (call (Value.ref 167) _ _) _ _ _); (apply onlyws_A; walk_at "z8"; (case hi => (first | lia | omega)); (case hpq => (first | lia | omega)); (case hsp => assumption); k_whole; intros; walk_at "ze"; walk_at "zk"; walk_at "zf")))
  k_with "call builtin:list.append" => (k_here; k_dflt (refine app_P (by k_asm) (by k_asm) (by assumption) (by assumption) (by (first | lia | omega)) ?_; k_whole; intros; walk_at "ze"; walk_at "zf"))
  k_with "compareOp NotEq ref ref" => (k_here; k_dflt (refine ne_tup2 (b := true) (by k_asm) (by k_mem) (by k_mem) (by ktr_units) (by first | assumption | decide +kernel) (by first | assumption | decide +kernel) (by first | assumption | decide +kernel) (by first | assumption | decide +kernel) (by first | exact neq_q (by assumption) | exact neq_p (by decide)) ?_; k_whole))
  k_with "eval Call Attribute" => ((with_reducible show wpAny _ _ (eval (Expr.Call (Expr.Attribute _ _ _) [Expr.Starred _ _] [] _) _) _ _ _); refine StarCall ?_ (by rfl))
  k_with "getAttr ref" => (k_here; k_dflt (refine bind_acc (by k_asm) (by k_asm) (by k_asm) (by k_mem) (by k_mem) (by k_is) (by k_is) (by k_is) (by k_is) (by k_is) (by decide +kernel) (by k_get) ?_; k_whole; intros))
  k_with "callWith ref" => (k_here; (with_reducible show wpAny _ _ (callWith _ (Value.ref _) _ (backTo _ (starEach [Expr.Starred _ _] _)) []) _ _ _); k_dflt (refine star_meth (by k_asm) (by k_mem) (by k_is) ?_; k_whole))
  k_with "MethP ref" => (k_here; k_dflt (refine methP (by k_asm) (by k_mem) (by k_in)))
  k_with "call ref" => (k_here; k_dflt (refine call_meth (by k_asm) (by k_mem) ?_; (apply pushC_A; walk_at "z8"; (case hz1 => (first | lia | omega)); k_whole; intros; walk_at "ze"; walk_at "zk"; walk_at "zf")))
  k_with "execs cons" => (first | (k_here; k_gentoks) | ((try (rename Flow → Shared → Prop => qq; clear qq)); (try (rename Value → Shared → Prop => qq; clear qq)); refine wpAny_execs_cons ?_; (try dsimp only); k_fold))
  trivial
theorem newline_A : ∀ {w : World} {loose : List Str} {mean : ExcName → Option Value} {mg mb : Str → Option Value} {dp un : Nat} {gd : Option (List Code)} {cn : Str} {cs : Scope} {a : Addr} {ccd : Value} {cl : List (Str × Addr)} {outer : List Env} {A₀ : Around} {base h₀ : Heap} {L : Addr} {m : Str → Option Value} {s : Shared} {Q E : Value → Shared → Prop} {news : List (Addr × Obj)} {ca cd : Nat} {its : Array Value} {p q : Str} {pa fd ln : Addr} {mx : Int} {lines : List Str}
  (B : Below A₀ base outer h₀) (F : Fr h₀ L s.heap m) (X : (fr.heap_1 w.params).In h₀) (N : News h₀ L s.heap news) (T : Top topProg loose mean mg mb h₀) (hk : cs.kind = .function) (hdp : dp + 20 < recursionLimit) (hun : un + 260 < cLine) (A : AccL news ca cd its p q) (M : FmtL news pa fd ca ln mx lines) (G : AllBare s.gens) (hi : 1 ≤ its.size) (hpe : p = Str.ofString " ") (hso : PyData.strOk p = true) (hsq : PyData.strOk q = true) (hpq : 1 ≤ q.length) (hqe : q ≠ Str.ofString "") (hzl : lines.length ≤ 99) (hsp : ∀ k, 1 ≤ k → Txt.isspace (Txt.join (Str.ofString "") (List.replicate k (p ++ q))) = false) (hret : ∀  (s₁ : Shared) (news₁ : List (Addr × Obj)) (lines₁ : List Str), Fr h₀ L s₁.heap m → News h₀ L s₁.heap news₁ → AccL news₁ ca cd #[] p q → FmtL news₁ pa fd ca ln mx lines₁ → KeepP ca cd ln news news₁ → AllBare s₁.gens → s₁.os = s.os → lines₁ = lines ++ [Txt.join (Str.ofString "") (List.replicate its.size (p ++ q))] → Q .none s₁),
  wpAny (model PySem.Challenge.rw_wu0100_01.row.prog w) (ktrTop dp un gd cn cs L a ccd cl outer) (call (.ref 56) [.ref pa]) Q E s := by
  k_fill
  intro w loose mean mg mb dp un gd cn cs a ccd cl outer A₀ base h₀ L m s Q E news ca cd its p q pa fd ln mx lines B F X N T hk hdp hun A M G hi hpe hso hsq hpq hqe hzl hsp hret
  refine wpAny_call ?_
  k_dflt (refine' code_def ?k1 ?k2 ?k3 ?k4 ?k5 ?kA ?kF ?kK ?k6 ?k7 ?k8 ?k9 ?kB ?_ ?c2 ?c3 ?c4 ?c5; (case kA => exact rfl); (case kF => exact rfl); (case kK => first | exact rfl | assumption); (case k1 => k_asm); (case k2 => k_asm); (case k3 => k_asm); (case k4 => k_asm); (case k5 => k_asm); (case k6 => k_is); (case k7 => k_is); (case k8 => ktr_room); (case k9 => first | exact BindsTo.of_eq rfl | exact binds_K (by k_in) rfl (by k_is) rfl rfl rfl); (case c5 => decide); (case kB => exact locs rfl); (case c2 => exact rfl); (case c3 => exact rfl); (case c4 => exact rfl); k_whole; intro g' L' h' FG' F' N' B' X' T'; (try dsimp only); (try k_lift B'); (try k_fold))
  (refine AccL.elim A ?_; intro nd n ha h1 x1 x2 hcd ps1 t1 k1 ps2 t2 k2 W hz hp hq)
  (refine FmtL.elim M ?_; intro hpa a1 a2 a3 a4 a5 a6 y1 y2 y3 y4 y5 y6 u1 u2 u3 u4  hfd vs c hln hS hzl)
  k_steps
  all_goals first
    | (exfalso; simp only [bne_iff_ne, ne_eq, Bool.not_eq_true, bne_eq_false_iff_eq, Bool.not_eq_false', decide_eq_true_eq, decide_eq_false_iff_not] at *; (first | lia | omega))
    | (refine' hret  _ _ _ ?eF ?eN ?eA ?eM ?eK ?eG ?eO ?eL ; (case eF => k_asm); (case eA => assumption); (case eN => first | k_asm | exact cb_drop (by k_asm) (by intro p hp; repeat (first | exact hp | apply List.Mem.tail))); (case eM => assumption); (case eK => first | exact KeepP.rfl | exact (by first | assumption | exact KeepL.toP (by assumption)) | exact (KeepP.trans (by first | assumption | exact KeepL.toP (by assumption)) (by first | assumption | exact KeepL.toP (by assumption))) | exact (KeepP.trans (by first | assumption | exact KeepL.toP (by assumption)) (KeepP.trans (by first | assumption | exact KeepL.toP (by assumption)) (by first | assumption | exact KeepL.toP (by assumption)))) | exact (KeepP.trans (by first | assumption | exact KeepL.toP (by assumption)) (KeepP.trans (by first | assumption | exact KeepL.toP (by assumption)) (KeepP.trans (by first | assumption | exact KeepL.toP (by assumption)) (by first | assumption | exact KeepL.toP (by assumption))))) | exact (KeepP.trans (by first | assumption | exact KeepL.toP (by assumption)) (KeepP.trans (by first | assumption | exact KeepL.toP (by assumption)) (KeepP.trans (by first | assumption | exact KeepL.toP (by assumption)) (KeepP.trans (by first | assumption | exact KeepL.toP (by assumption)) (by first | assumption | exact KeepL.toP (by assumption)))))) | exact (KeepP.trans (by first | assumption | exact KeepL.toP (by assumption)) (KeepP.trans (by first | assumption | exact KeepL.toP (by assumption)) (KeepP.trans (by first | assumption | exact KeepL.toP (by assumption)) (KeepP.trans (by first | assumption | exact KeepL.toP (by assumption)) (KeepP.trans (by first | assumption | exact KeepL.toP (by assumption)) (by first | assumption | exact KeepL.toP (by assumption))))))) | exact (KeepP.trans (by first | assumption | exact KeepL.toP (by assumption)) (KeepP.trans (by first | assumption | exact KeepL.toP (by assumption)) (KeepP.trans (by first | assumption | exact KeepL.toP (by assumption)) (KeepP.trans (by first | assumption | exact KeepL.toP (by assumption)) (KeepP.trans (by first | assumption | exact KeepL.toP (by assumption)) (KeepP.trans (by first | assumption | exact KeepL.toP (by assumption)) (by first | assumption | exact KeepL.toP (by assumption)))))))) | exact (KeepP.trans (by first | assumption | exact KeepL.toP (by assumption)) (KeepP.trans (by first | assumption | exact KeepL.toP (by assumption)) (KeepP.trans (by first | assumption | exact KeepL.toP (by assumption)) (KeepP.trans (by first | assumption | exact KeepL.toP (by assumption)) (KeepP.trans (by first | assumption | exact KeepL.toP (by assumption)) (KeepP.trans (by first | assumption | exact KeepL.toP (by assumption)) (KeepP.trans (by first | assumption | exact KeepL.toP (by assumption)) (by first | assumption | exact KeepL.toP (by assumption))))))))) | exact (KeepP.trans (by first | assumption | exact KeepL.toP (by assumption)) (KeepP.trans (by first | assumption | exact KeepL.toP (by assumption)) (KeepP.trans (by first | assumption | exact KeepL.toP (by assumption)) (KeepP.trans (by first | assumption | exact KeepL.toP (by assumption)) (KeepP.trans (by first | assumption | exact KeepL.toP (by assumption)) (KeepP.trans (by first | assumption | exact KeepL.toP (by assumption)) (KeepP.trans (by first | assumption | exact KeepL.toP (by assumption)) (KeepP.trans (by first | assumption | exact KeepL.toP (by assumption)) (by first | assumption | exact KeepL.toP (by assumption)))))))))) | exact (KeepP.trans (by first | assumption | exact KeepL.toP (by assumption)) (KeepP.trans (by first | assumption | exact KeepL.toP (by assumption)) (KeepP.trans (by first | assumption | exact KeepL.toP (by assumption)) (KeepP.trans (by first | assumption | exact KeepL.toP (by assumption)) (KeepP.trans (by first | assumption | exact KeepL.toP (by assumption)) (KeepP.trans (by first | assumption | exact KeepL.toP (by assumption)) (KeepP.trans (by first | assumption | exact KeepL.toP (by assumption)) (KeepP.trans (by first | assumption | exact KeepL.toP (by assumption)) (KeepP.trans (by first | assumption | exact KeepL.toP (by assumption)) (by first | assumption | exact KeepL.toP (by assumption)))))))))))); (case eG => assumption); (case eO => simp only [*]); (case eL => exact row_eq (by (first | lia | omega))))
end
section
open PySem PySem.Spec PySem.Calls PySem.W PyProof.Rows
set_option maxRecDepth 100000
set_option maxHeartbeats 0
theorem rows_S8_1 : True := by
  k_with_none
  w_top off
  k_with "z8" => ((try (case A => assumption)); (case B => k_asm); (case F => k_asm); (case X => k_asm); (case N => first | k_asm | exact cb_drop (by k_asm) (by intro p hp; repeat (first | exact hp | apply List.Mem.tail))); (case T => k_asm); (case hk => first | exact rfl | assumption); (case hdp => ktr_room); (case hun => ktr_units); (try (case G => assumption)))
  k_with "ze" => (refine AccL.elim2 (by assumption) ?_; intros)
  k_with "zf" => (refine FmtL.elim (by assumption) ?_; intros)
  k_with "zk" => (have zq := FmtL.keepK (by assumption) (by assumption) (by assumption); revert zq; intro _)
  k_with "k_mem" => (assumption)
  k_with "k_ne" => (first | exact ne_mem1 (by with_reducible assumption) (by with_reducible assumption) | exact ne_mem2 (by with_reducible assumption) (by with_reducible assumption))
  k_with "execs cons" => (first | (k_here; k_gentoks) | ((try (rename Flow → Shared → Prop => qq; clear qq)); (try (rename Value → Shared → Prop => qq; clear qq)); refine wpAny_execs_cons ?_; (try dsimp only); k_fold))
  trivial

theorem rows_S8_2 : True := by
  k_with "k_updF" => (with_reducible assumption)
  k_with "k_inst" => (refine accI_news (by k_asm) (by k_mem) (by k_mem))
  k_with "getAttr ref" => (k_here; k_dflt (refine get_acc (by k_asm) (by k_asm) (by k_asm) (by k_mem) (by k_mem) (by k_is) (by k_is) (by k_is) (by k_get) (by k_handed) ?_; k_whole))
  k_with "getMethod ref" => (k_here; k_dflt (first | ((with_reducible show wpAny _ _ (getMethod (Value.ref _) (PySem.Str.ofString "append") _) _ _ _); refine method_acc_app (by k_asm) (by k_asm) (by k_asm) (by k_mem) (by k_mem) (by k_get) ?_; k_whole) | (refine method_acc_fn (by k_asm) (by k_asm) (by k_asm) (by k_mem) (by k_mem) (by k_is) (by k_is) (by k_get) ?_; k_whole) | ((with_reducible show wpAny _ _ (getMethod (Value.ref _) (PySem.Str.ofString "pop") _) _ _ _); refine sup_pop (by k_asm) (by k_asm) (by k_asm) (by k_mem) (by k_mem) ?_; k_whole; intro q' h' F' N' l1; (try k_lt l1); revert q' h' F' N' l1; intros) | ((with_reducible show wpAny _ _ (getMethod (Value.ref _) (PySem.Str.ofString "__len__") _) _ _ _); refine sup_len (by k_asm) (by k_asm) (by k_asm) (by k_mem) (by k_mem) ?_; k_whole; intro q' h' F' N' l1; (try k_lt l1); revert q' h' F' N' l1; intros) | ((with_reducible show wpAny _ _ (getMethod (Value.ref _) (PySem.Str.ofString "__init__") _) _ _ _); refine sup_init (by k_asm) (by k_asm) (by k_asm) (by k_mem) (by k_mem) ?_; k_whole; intro q' h' F' N' l1; (try k_lt l1); revert q' h' F' N' l1; intros)))
  k_with "call builtin:list.append" => (k_here; k_dflt (refine append_acc (by k_asm) (by k_asm) (by k_asm) (by k_updF) (by first | assumption | omega) ?_; k_whole; intro n' h' F' N'; (try dsimp only at N'); revert n' h' F' N'; intros))
  k_with "callWith ref" => (k_here; k_dflt ((with_reducible show wpAny _ _ (callWith _ (Value.ref _) [] (backTo _ (starEach [] _)) []) _ _ _); refine bm_callWith (by k_asm) (by k_mem) (by first | exact .inl rfl | exact .inr rfl) ?_; k_whole; (try dsimp only [List.nil_append])))
  k_with "call ref" => (k_here; k_dflt (first | (refine bm_call_len (by k_asm) (by k_asm) (by k_asm) (by k_mem) (by k_mem) ?_; k_whole) | (refine bm_call_init (by k_asm) (by k_asm) (by k_asm) (by k_mem) (by k_updF) ?_; k_whole; intro n' h' F' N'; (try dsimp only at N'); revert n' h' F' N'; intros) | (refine bm_call_pop (by k_asm) (by k_asm) (by k_asm) (by k_mem) (by k_updF) (by first | assumption | omega) (by assumption) ?_; k_whole; intro n' h' F' N'; (try dsimp only at N'); revert n' h' F' N'; intros)))
  k_with "wpAt" => ((fail_if_success ks_step "execs cons"); dsimp only; ks_step "execs cons"; refine ks_wpAt_execs_cons ?_)
  k_with "wpAt" => (ks_step "eval Call"; k_dflt (refine ks_wpAt_MethodCall ?_))
  k_with "k_ne" => (first | exact ne_mem1 (by with_reducible assumption) (by with_reducible assumption) | exact ne_mem1 (And.right (by with_reducible assumption)) (by with_reducible assumption) | exact ne_mem1 (And.right (And.right (by with_reducible assumption))) (by with_reducible assumption) | exact ne_mem1 (And.right (And.right (And.right (by with_reducible assumption)))) (by with_reducible assumption) | exact ne_mem1 (And.right (And.right (And.right (And.right (by with_reducible assumption))))) (by with_reducible assumption) | exact ne_mem1 (And.right (And.right (And.right (And.right (And.right (by with_reducible assumption)))))) (by with_reducible assumption) | exact ne_mem1 (And.right (And.right (And.right (And.right (And.right (And.right (by with_reducible assumption))))))) (by with_reducible assumption))
  k_with "subscriptTail" => (k_here; (with_reducible show wpAny _ _ (subscriptTail _ _ (Value.ref _) (Value.int _ _)) _ _ _); k_dflt (refine acc_itemTail (by k_asm) (by k_asm) (by k_asm) (by k_mem) (by first | assumption | omega) (by omega) (by assumption) (by with_unfolding_all rfl) ?_; k_whole))
  k_with "subscriptTail" => (k_here; (with_reducible show wpAny _ _ (subscriptTail _ _ (Value.ref _) (Value.ref _)) _ _ _); k_dflt (refine acc_sliceTail (by k_asm) (by k_asm) (by k_asm) (by k_mem) (by first | exact IsPart.none | exact IsPart.int _ _) (by first | exact IsPart.none | exact IsPart.int _ _) (by first | assumption | omega) (by with_unfolding_all rfl) ?_; k_whole; intro l' h' F' N' l1; (try k_lt l1); revert l' h' F' N' l1; intros))
  k_with "setItem ref" => (k_here; k_dflt (refine acc_sliceSet (by k_asm) (by k_asm) (by k_asm) (by k_updF) (by first | exact IsPart.none | exact IsPart.int _ _) (by first | exact IsPart.none | exact IsPart.int _ _) (by k_mem) (by first | assumption | omega) (by first | assumption | decide | (simp; done) | omega) ?_; k_whole; intro n' h' F' N'; (try dsimp only at N'); revert n' h' F' N'; intros))
  k_with "setAttr ref" => (k_here; k_dflt (refine set_acc (by k_asm) (by k_asm) (by k_asm) (by k_mem) (by k_is) (by k_is) (by k_get) (by k_put) (by k_upd) (by simp) ?_; k_whole; intro h' F' N'; (try dsimp only at N'); revert h' F' N'; intros))
  k_with "execs cons" => (first | (k_here; k_gentoks) | ((try (rename Flow → Shared → Prop => qq; clear qq)); (try (rename Value → Shared → Prop => qq; clear qq)); refine wpAny_execs_cons ?_; (try dsimp only); k_fold))
  trivial
theorem len_E : ∀ {w : World} {loose : List Str} {mean : ExcName → Option Value} {mg mb : Str → Option Value} {dp un : Nat} {gd : Option (List Code)} {cn : Str} {cs : Scope} {a : Addr} {ccd : Value} {cl : List (Str × Addr)} {outer : List Env} {A₀ : Around} {base h₀ : Heap} {L : Addr} {m : Str → Option Value} {s : Shared} {Q E : Value → Shared → Prop} {news : List (Addr × Obj)} {ca cd : Nat} {its : Array Value}
  (B : Below A₀ base outer h₀) (F : Fr h₀ L s.heap m) (X : (fr.heap_1 w.params).In h₀) (N : News h₀ L s.heap news) (T : Top topProg loose mean mg mb h₀) (hk : cs.kind = .function) (hdp : dp + 6 < recursionLimit) (hun : un + 80 < cLine) (A : AccL news ca cd its (Str.ofString "") (Str.ofString "")) (G : AllBare s.gens) (hret : ∀ tk (s₁ : Shared) (news₁ : List (Addr × Obj)), Fr h₀ L s₁.heap m → News h₀ L s₁.heap news₁ → AccL news₁ ca cd its (Str.ofString "") (Str.ofString "") → KeepL ca cd news news₁ → AllBare s₁.gens → s₁.os = s.os → Q (.int 0 tk) s₁),
  wpAny (model PySem.Challenge.rw_wu0100_01.row.prog w) (ktrTop dp un gd cn cs L a ccd cl outer) (call (.ref 145) [.ref ca]) Q E s := by
  intro w loose mean mg mb dp un gd cn cs a ccd cl outer A₀ base h₀ L m s Q E news ca cd its B F X N T hk hdp hun A G hret
  have h00 : its.size * ((Str.ofString "").length + (Str.ofString "").length) = 0 := by rw [show (Str.ofString "").length = 0 by decide]; simp
  refine len_A B F X N T hk hdp hun A G fun tk s₁ news₁ F₁ N₁ A₁ K₁ G₁ o₁ _ _ => ?_
  rw [h00]
  exact hret tk s₁ news₁ F₁ N₁ A₁ K₁ G₁ o₁
theorem rows_S8_3 : True := by
  k_with "k_mem" => (first | with_reducible assumption | with_reducible exact List.Mem.head _ | with_reducible exact List.Mem.tail _ (by assumption) | with_reducible exact List.Mem.tail _ (List.Mem.tail _ (by assumption)) | with_reducible exact List.Mem.tail _ (List.Mem.tail _ (List.Mem.tail _ (by assumption))))
  k_with "truthy ref" => (k_here; k_dflt (refine truthy_len (by k_asm) (by k_asm) (by k_inst) (by k_is) (by k_is) (by k_is) ?_; k_whole))
  k_with "call type:str" => (k_here; (with_reducible show wpAny _ _ (call (Value.type "str") [Value.ref _]) _ _ _); k_dflt (refine kso_call (by ktr_units) (by k_in) (by k_inst) (by k_is) (by k_is) ?_; k_whole))
  k_with "call ref" => (k_here; k_dflt ((with_reducible show wpAny _ _ (call (Value.ref 145) _ _) _ _ _); (apply len_E; walk_at "z8"; k_whole; intros; walk_at "ze"; walk_at "zk"; walk_at "zf"; (dsimp only [PySem.W.LenBack]; refine ⟨⟨by omega, by omega⟩, ?_⟩; try dsimp only))))
  k_with "call ref" => (k_here; k_dflt ((with_reducible show wpAny _ _ (call (Value.ref 152) _ _) _ _ _); (apply str_A; walk_at "z8"; k_whole; intros; walk_at "ze"; walk_at "zk"; walk_at "zf"; (try dsimp only [PySem.W.StrBack]))))
  k_with "call ref" => (k_here; k_dflt ((with_reducible show wpAny _ _ (call (Value.ref 122) _ _) _ _ _); (apply push_A; walk_at "z8"; (case hz1 => omega); k_whole; intros; walk_at "ze"; walk_at "zk"; walk_at "zf")))
  k_with "call ref" => (k_here; k_dflt ((with_reducible show wpAny _ _ (call (Value.ref 138) _ _) _ _ _); (apply pop_A; walk_at "z8"; (case hpos => omega); k_whole; intros; walk_at "ze"; walk_at "zk"; walk_at "zf")))
  k_with "call ref" => (k_here; k_dflt ((with_reducible show wpAny _ _ (call (Value.ref 138) _ _) _ _ _); (apply pope_A; walk_at "z8"; (case he => omega); k_whole; intros; walk_at "ze"; walk_at "zk"; walk_at "zf")))
  k_with "call ref" => (k_here; k_dflt ((with_reducible show wpAny _ _ (call (Value.ref 160) _ _) _ _ _); (apply reset_A; walk_at "z8"; k_whole; intros; walk_at "ze"; walk_at "zk"; walk_at "zf")))
  k_with "call ref" => (k_here; k_dflt ((with_reducible show wpAny _ _ (call (Value.ref 167) _ _) _ _ _); (apply onlyws_A; walk_at "z8"; (case hi => omega); (case hpq => omega); (case hsp => assumption); k_whole; intros; walk_at "ze"; walk_at "zk"; walk_at "zf")))
  k_with "call builtin:list.append" => (k_here; k_dflt (refine app_P (by k_asm) (by k_asm) (by assumption) (by assumption) (by omega) ?_; k_whole; intros; walk_at "ze"; walk_at "zf"))
  k_with "compareOp NotEq ref ref" => (k_here; k_dflt (refine ne_tup2 (b := true) (by k_asm) (by k_mem) (by k_mem) (by ktr_units) (by first | assumption | decide +kernel) (by first | assumption | decide +kernel) (by first | assumption | decide +kernel) (by first | assumption | decide +kernel) (by first | exact neq_q (by assumption) | exact neq_p (by decide)) ?_; k_whole))
  k_with "eval Call Attribute" => ((with_reducible show wpAny _ _ (eval (Expr.Call (Expr.Attribute _ _ _) [Expr.Starred _ _] [] _) _) _ _ _); refine StarCall ?_ (by rfl))
  k_with "getAttr ref" => (k_here; k_dflt (refine bind_acc (by k_asm) (by k_asm) (by k_asm) (by k_mem) (by k_mem) (by k_is) (by k_is) (by k_is) (by k_is) (by k_is) (by decide +kernel) (by k_get) ?_; k_whole; intros))
  k_with "callWith ref" => (k_here; (with_reducible show wpAny _ _ (callWith _ (Value.ref _) _ (backTo _ (starEach [Expr.Starred _ _] _)) []) _ _ _); k_dflt (refine star_meth (by k_asm) (by k_mem) (by k_is) ?_; k_whole))
  k_with "MethP ref" => (k_here; k_dflt (refine methP (by k_asm) (by k_mem) (by k_in)))
  k_with "call ref" => (k_here; k_dflt (refine call_meth (by k_asm) (by k_mem) ?_; (apply pushC_A; walk_at "z8"; (case hz1 => omega); k_whole; intros; walk_at "ze"; walk_at "zk"; walk_at "zf")))
  k_with "execs cons" => (first | (k_here; k_gentoks) | ((try (rename Flow → Shared → Prop => qq; clear qq)); (try (rename Value → Shared → Prop => qq; clear qq)); refine wpAny_execs_cons ?_; (try dsimp only); k_fold))
  trivial
theorem newline_E : ∀ {w : World} {loose : List Str} {mean : ExcName → Option Value} {mg mb : Str → Option Value} {dp un : Nat} {gd : Option (List Code)} {cn : Str} {cs : Scope} {a : Addr} {ccd : Value} {cl : List (Str × Addr)} {outer : List Env} {A₀ : Around} {base h₀ : Heap} {L : Addr} {m : Str → Option Value} {s : Shared} {Q E : Value → Shared → Prop} {news : List (Addr × Obj)} {ca cd : Nat} {its : Array Value} {pa fd ln : Addr} {mx : Int} {lines : List Str}
  (B : Below A₀ base outer h₀) (F : Fr h₀ L s.heap m) (X : (fr.heap_1 w.params).In h₀) (N : News h₀ L s.heap news) (T : Top topProg loose mean mg mb h₀) (hk : cs.kind = .function) (hdp : dp + 20 < recursionLimit) (hun : un + 260 < cLine) (A : AccL news ca cd its (Str.ofString "") (Str.ofString "")) (M : FmtL news pa fd ca ln mx lines) (G : AllBare s.gens) (he : its.size = 0) (hret : ∀  (s₁ : Shared) (news₁ : List (Addr × Obj)) (lines₁ : List Str), Fr h₀ L s₁.heap m → News h₀ L s₁.heap news₁ → AccL news₁ ca cd #[] (Str.ofString "") (Str.ofString "") → FmtL news₁ pa fd ca ln mx lines₁ → KeepP ca cd ln news news₁ → AllBare s₁.gens → s₁.os = s.os → lines₁ = lines → Q .none s₁),
  wpAny (model PySem.Challenge.rw_wu0100_01.row.prog w) (ktrTop dp un gd cn cs L a ccd cl outer) (call (.ref 56) [.ref pa]) Q E s := by
  k_fill
  intro w loose mean mg mb dp un gd cn cs a ccd cl outer A₀ base h₀ L m s Q E news ca cd its pa fd ln mx lines B F X N T hk hdp hun A M G he hret
  refine wpAny_call ?_
  k_dflt (refine' code_def ?k1 ?k2 ?k3 ?k4 ?k5 ?kA ?kF ?kK ?k6 ?k7 ?k8 ?k9 ?kB ?_ ?c2 ?c3 ?c4 ?c5; (case kA => exact rfl); (case kF => exact rfl); (case kK => first | exact rfl | assumption); (case k1 => k_asm); (case k2 => k_asm); (case k3 => k_asm); (case k4 => k_asm); (case k5 => k_asm); (case k6 => k_is); (case k7 => k_is); (case k8 => ktr_room); (case k9 => first | exact BindsTo.of_eq rfl | exact binds_K (by k_in) rfl (by k_is) rfl rfl rfl); (case c5 => decide); (case kB => exact locs rfl); (case c2 => exact rfl); (case c3 => exact rfl); (case c4 => exact rfl); k_whole; intro g' L' h' FG' F' N' B' X' T'; (try dsimp only); (try k_lift B'); (try k_fold))
  (refine AccL.elim A ?_; intro nd n ha h1 x1 x2 hcd ps1 t1 k1 ps2 t2 k2 W hz hp hq)
  (refine FmtL.elim M ?_; intro hpa a1 a2 a3 a4 a5 a6 y1 y2 y3 y4 y5 y6 u1 u2 u3 u4  hfd vs c hln hS hzl)
  k_steps
  all_goals first
    | (exfalso; simp only [bne_iff_ne, ne_eq, Bool.not_eq_true, bne_eq_false_iff_eq, Bool.not_eq_false', decide_eq_true_eq, decide_eq_false_iff_not] at *; omega)
    | (refine' hret  _ _ _ ?eF ?eN ?eA ?eM ?eK ?eG ?eO ?eL ; (case eF => k_asm); (case eA => assumption); (case eN => first | k_asm | exact cb_drop (by k_asm) (by intro p hp; repeat (first | exact hp | apply List.Mem.tail))); (case eM => assumption); (case eK => first | exact KeepP.rfl | exact (by first | assumption | exact KeepL.toP (by assumption)) | exact (KeepP.trans (by first | assumption | exact KeepL.toP (by assumption)) (by first | assumption | exact KeepL.toP (by assumption))) | exact (KeepP.trans (by first | assumption | exact KeepL.toP (by assumption)) (KeepP.trans (by first | assumption | exact KeepL.toP (by assumption)) (by first | assumption | exact KeepL.toP (by assumption)))) | exact (KeepP.trans (by first | assumption | exact KeepL.toP (by assumption)) (KeepP.trans (by first | assumption | exact KeepL.toP (by assumption)) (KeepP.trans (by first | assumption | exact KeepL.toP (by assumption)) (by first | assumption | exact KeepL.toP (by assumption))))) | exact (KeepP.trans (by first | assumption | exact KeepL.toP (by assumption)) (KeepP.trans (by first | assumption | exact KeepL.toP (by assumption)) (KeepP.trans (by first | assumption | exact KeepL.toP (by assumption)) (KeepP.trans (by first | assumption | exact KeepL.toP (by assumption)) (by first | assumption | exact KeepL.toP (by assumption)))))) | exact (KeepP.trans (by first | assumption | exact KeepL.toP (by assumption)) (KeepP.trans (by first | assumption | exact KeepL.toP (by assumption)) (KeepP.trans (by first | assumption | exact KeepL.toP (by assumption)) (KeepP.trans (by first | assumption | exact KeepL.toP (by assumption)) (KeepP.trans (by first | assumption | exact KeepL.toP (by assumption)) (by first | assumption | exact KeepL.toP (by assumption))))))) | exact (KeepP.trans (by first | assumption | exact KeepL.toP (by assumption)) (KeepP.trans (by first | assumption | exact KeepL.toP (by assumption)) (KeepP.trans (by first | assumption | exact KeepL.toP (by assumption)) (KeepP.trans (by first | assumption | exact KeepL.toP (by assumption)) (KeepP.trans (by first | assumption | exact KeepL.toP (by assumption)) (KeepP.trans (by first | assumption | exact KeepL.toP (by assumption)) (by first | assumption | exact KeepL.toP (by assumption)))))))) | exact (KeepP.trans (by first | assumption | exact KeepL.toP (by assumption)) (KeepP.trans (by first | assumption | exact KeepL.toP (by assumption)) (KeepP.trans (by first | assumption | exact KeepL.toP (by assumption)) (KeepP.trans (by first | assumption | exact KeepL.toP (by assumption)) (KeepP.trans (by first | assumption | exact KeepL.toP (by assumption)) (KeepP.trans (by first | assumption | exact KeepL.toP (by assumption)) (KeepP.trans (by first | assumption | exact KeepL.toP (by assumption)) (by first | assumption | exact KeepL.toP (by assumption))))))))) | exact (KeepP.trans (by first | assumption | exact KeepL.toP (by assumption)) (KeepP.trans (by first | assumption | exact KeepL.toP (by assumption)) (KeepP.trans (by first | assumption | exact KeepL.toP (by assumption)) (KeepP.trans (by first | assumption | exact KeepL.toP (by assumption)) (KeepP.trans (by first | assumption | exact KeepL.toP (by assumption)) (KeepP.trans (by first | assumption | exact KeepL.toP (by assumption)) (KeepP.trans (by first | assumption | exact KeepL.toP (by assumption)) (KeepP.trans (by first | assumption | exact KeepL.toP (by assumption)) (by first | assumption | exact KeepL.toP (by assumption)))))))))) | exact (KeepP.trans (by first | assumption | exact KeepL.toP (by assumption)) (KeepP.trans (by first | assumption | exact KeepL.toP (by assumption)) (KeepP.trans (by first | assumption | exact KeepL.toP (by assumption)) (KeepP.trans (by first | assumption | exact KeepL.toP (by assumption)) (KeepP.trans (by first | assumption | exact KeepL.toP (by assumption)) (KeepP.trans (by first | assumption | exact KeepL.toP (by assumption)) (KeepP.trans (by first | assumption | exact KeepL.toP (by assumption)) (KeepP.trans (by first | assumption | exact KeepL.toP (by assumption)) (KeepP.trans (by first | assumption | exact KeepL.toP (by assumption)) (by first | assumption | exact KeepL.toP (by assumption)))))))))))); (case eG => assumption); (case eO => simp only [*]); (case eL => rfl))
end
section
open PySem PySem.Spec PySem.Calls PySem.W PyProof.Rows
set_option maxRecDepth 100000
set_option maxHeartbeats 0
noncomputable def FirstOf (w : World) (A : Around) (E : Value → Shared → Prop) (x : Value) (Q : Value → Shared → Prop) (s : Shared) : Prop :=
  wpAny (model PG w) A (pyIter x) (fun it s₂ => ∀ E', wpAny (model PG w) A (pyNext it) (fun r s₃ => ∃ v, r = some v ∧ Q v s₃) E' s₂) E s
section
variable {w : World} {A : Around} {E : Value → Shared → Prop} {s : Shared} {env : Env} {h₀ : Heap} {L : Addr} {m : Str → Option Value} {news : List (Addr × Obj)}
theorem For_first {target iter : Expr} {body orelse : List Stmt} {pos : Pos} {Q : Flow → Shared → Prop}
    (h : wpAny (model PG w) A (eval iter env) (fun x s₁ => FirstOf w A E x (fun v s₃ => ∀ E', wpAny (model PG w) A (assign target env v) (fun _ s₄ => wpAny (model PG w) A (execs body env) (fun f s₅ => match f with | .brk => Q .next s₅ | .ret v => Q (.ret v) s₅ | _ => False) E' s₄) E' s₃) s₁) E s)
    (hs : ∀ x, foldedSetIterable iter env x = pure x) (ht : ∀ it v, letOwnedTupleGo target it v = pure ()) : wpAny (model PG w) A (exec (.For target iter body orelse pos) env) Q E s := by
  refine wpAny_For (wpAny_mono h (fun x s₁ h₁ => wpAny_mono h₁ (fun it s₂ h₂ => ?_) fun _ _ z => z) fun _ _ z => z) hs
  refine codeAny_forLoop (fun n s' => n = 0 ∧ s' = s₂) (fun n s' hI => ?_) 0 ⟨rfl, rfl⟩ (ht it)
  obtain ⟨rfl, rfl⟩ := hI
  refine wpAny_mono (h₂ _) (fun r s₃ h₃ => ?_) fun _ _ z => z
  obtain ⟨v, rfl, h₃⟩ := h₃
  refine wpAny_mono (h₃ _) (fun _ s₄ h₄ => wpAny_mono h₄ (fun f s₅ h₅ => ?_) fun _ _ z => z) fun _ _ z => z
  cases f with
  | next => exact h₅.elim
  | cont => exact h₅.elim
  | brk => exact h₅
  | ret v => exact h₅
theorem first_str {x : Str} {t : Tok} {c : Nat} {Q : Value → Shared → Prop} (hx : x.cps[0]? = some c) (hh : A.handled = none) (F : Fr h₀ L s.heap m) (N : News h₀ L s.heap news)
    (h : ∀ u h' tk, Fr h₀ L h' m → News h₀ L h' news → Q (.str ⟨#[c]⟩ u) { s with heap := h', toks := tk }) : FirstOf w A E (.str x t) Q s := by
  unfold FirstOf
  refine wpAny_pyIter_str fun o St W hst => ?_
  intro E'
  have hlt : 0 < x.cps.size := by
    rw [Array.getElem?_eq_some_iff] at hx
    exact hx.1
  refine (W A hh).item 0 _ _ _ hlt hst fun v h' tk hP _ hk => ?_
  obtain ⟨c', u, hc', rfl⟩ := hP
  rw [hx] at hc'; cases hc'
  have kp : ∀ b o, s.heap.get? b = some o → h'.get? b = some o := fun b o e => hk b o (by
    intro hm
    rcases List.mem_cons.mp hm with rfl | hm
    · exact Nat.lt_irrefl _ (Heap.lt_size e)
    · cases hm) (Heap.get?_push_of_some _ e)
  exact ⟨_, rfl, h u h' _ (F.keeps kp) fun p hp => ⟨kp _ _ (N p hp).1, (N p hp).2⟩⟩
theorem first_range {r : Addr} {a b c : Int} {t u v : Tok} {Q : Value → Shared → Prop} (hr : IsRange s.heap r a b c t u v) (hsmall : Builtin.Range.small a b c = true) (hpos : 0 < Builtin.Range.rangeSize a b c) (F : Fr h₀ L s.heap m) (N : News h₀ L s.heap news)
    (h : ∀ u h' tk, Fr h₀ L h' m → News h₀ L h' news → Q (.int a u) { s with heap := h', toks := tk }) : FirstOf w A E (.ref r) Q s := by
  unfold FirstOf
  refine wpAny_pyIter_range hr hsmall ?_
  intro E'
  refine wpAny_pyNext_range_item (Heap.get?_push_size _ rfl) hpos fun h' hit hs => ?_
  have kp : ∀ b o, s.heap.get? b = some o → h'.get? b = some o := fun b o e => hs.extBut b o (Nat.ne_of_lt (Heap.lt_size e)) (Heap.get?_push_of_some _ e)
  exact ⟨_, rfl, h _ h' _ (F.keeps kp) fun p hp => ⟨kp _ _ (N p hp).1, (N p hp).2⟩⟩
theorem rangeSize_down {k : Nat} (h : 1 ≤ k) : Builtin.Range.rangeSize (k : Int) 0 (-1) = k := by
  unfold Builtin.Range.rangeSize
  simp
  (first | lia | omega)
theorem small_down {k : Nat} (h : 1 ≤ k) (hk : k ≤ 1000) : Builtin.Range.small (k : Int) 0 (-1) = true := by
  unfold Builtin.Range.small
  rw [rangeSize_down h]
  simp [Builtin.Range.rangeFitsLong]
  (first | lia | omega)
end
end
section
open PySem PySem.Spec PySem.Calls PySem.W PyProof.Rows
set_option maxRecDepth 100000
set_option maxHeartbeats 0
theorem gt_no {w : World} {A : Around} {E : Value → Shared → Prop} {s : Shared} {a b : Int} {t u : Tok} {Q : Value → Shared → Prop} (h : a ≤ b) (hq : Q (.bool false) s) : wpAny (model PG w) A (compareOp .Gt (.int a t) (.int b u)) Q E s :=
  PyProof.Rows.gt_int (by rw [decide_eq_false (by omega)]; exact hq)
theorem gt_yes {w : World} {A : Around} {E : Value → Shared → Prop} {s : Shared} {a b : Int} {t u : Tok} {Q : Value → Shared → Prop} (h : b < a) (hq : Q (.bool true) s) : wpAny (model PG w) A (compareOp .Gt (.int a t) (.int b u)) Q E s :=
  PyProof.Rows.gt_int (by rw [decide_eq_true (by omega)]; exact hq)
theorem Words.last {news : List (Addr × Obj)} {its : Array Value} {p q : Str} (W : Words news its p q) (h : 1 ≤ its.size) : ∃ T ka kb, its[((its.size : Int) - 1).toNat]? = some (.ref T) ∧ (T, tup2 (.str p ka) (.str q kb)) ∈ news := by
  have e : ((its.size : Int) - 1).toNat = its.size - 1 := by omega
  obtain ⟨T, ka, kb, e1, hm⟩ := W its[its.size - 1] (Array.getElem_mem (by omega)).val
  exact ⟨T, ka, kb, by rw [e, Array.getElem?_eq_getElem (by omega), e1], hm⟩
structure RemL (news : List (Addr × Obj)) (ll ln : Addr) (new : Array Value) (c : Nat) (p q : Str) : Prop where
  h : (ll, listOf new c) ∈ news
  W : Words news new p q
  ne : ll ≠ ln
  sz : new.size = 1
section
variable {news news' : List (Addr × Obj)} {ca cd pa fd ln ll : Addr} {its new : Array Value} {p q : Str} {c : Nat}
theorem RemL.keepL (A : AccL news ca cd its p q) (R : RemL news ll ln new c p q) (K : KeepL ca cd news news') : RemL news' ll ln new c p q := by
  (refine AccL.elim A ?_; intro nd n ha h1 x1 x2 hcd ps1 t1 k1 ps2 t2 k2 W hz hp hq)
  exact ⟨K _ R.h (nd_ne nd R.h ha (cls_ne (by simp))) (nd_ne nd R.h hcd (cls_ne (by simp))) (nd_ne nd R.h t1 (cls_ne (by simp))) (nd_ne nd R.h t2 (cls_ne (by simp))),
    R.W.mono fun T ka kb hm => K _ hm (nd_ne nd hm ha tup_acc) (nd_ne nd hm hcd tup_ini) (nd_ne nd hm t1 tup_tab) (nd_ne nd hm t2 tup_tab), R.ne, R.sz⟩
theorem RemL.keepP {mx : Int} {lines : List Str} (A : AccL news ca cd its p q) (M : FmtL news pa fd ca ln mx lines) (R : RemL news ll ln new c p q) (K : KeepP ca cd ln news news') : RemL news' ll ln new c p q := by
  (refine AccL.elim A ?_; intro nd n ha h1 x1 x2 hcd ps1 t1 k1 ps2 t2 k2 W hz hp hq)
  obtain ⟨vs, c', hln, hS⟩ := M.hln
  exact ⟨K _ R.h (nd_ne nd R.h ha (cls_ne (by simp))) (nd_ne nd R.h hcd (cls_ne (by simp))) (nd_ne nd R.h t1 (cls_ne (by simp))) (nd_ne nd R.h t2 (cls_ne (by simp))) R.ne,
    R.W.mono fun T ka kb hm => K _ hm (nd_ne nd hm ha tup_acc) (nd_ne nd hm hcd tup_ini) (nd_ne nd hm t1 tup_tab) (nd_ne nd hm t2 tup_tab) (nd_ne nd hm hln (cls_ne (by simp))), R.ne, R.sz⟩
end
theorem popr_P : ∀ {w : World} {loose : List Str} {mean : ExcName → Option Value} {mg mb : Str → Option Value} {dp un : Nat} {gd : Option (List Code)} {cn : Str} {cs : Scope} {a : Addr} {ccd : Value} {cl : List (Str × Addr)} {outer : List Env} {A₀ : Around} {base h₀ : Heap} {L : Addr} {m : Str → Option Value} {s : Shared} {Q E : Value → Shared → Prop} {news : List (Addr × Obj)} {ca cd : Nat} {its : Array Value} {p q : Str} {pa fd ln : Addr} {mx : Int} {lines : List Str} {i : Int} {tk : Tok}
  (B : Below A₀ base outer h₀) (F : Fr h₀ L s.heap m) (X : (fr.heap_1 w.params).In h₀) (N : News h₀ L s.heap news) (T : Top topProg loose mean mg mb h₀) (hk : cs.kind = .function) (hdp : dp + 2 < recursionLimit) (hun : un + 24 < cLine) (A : AccL news ca cd its p q) (M : FmtL news pa fd ca ln mx lines) (G : AllBare s.gens) (hik : i = (its.size : Int) - 1) (hpos : 1 ≤ its.size) (hret : ∀ (its' : Array Value) (ll : Nat) (new : Array Value) (c : Nat) (s₁ : Shared) (news₁ : List (Addr × Obj)), Fr h₀ L s₁.heap m → News h₀ L s₁.heap news₁ → AccL news₁ ca cd its' p q → FmtL news₁ pa fd ca ln mx lines → RemL news₁ ll ln new c p q → KeepL ca cd news news₁ → AllBare s₁.gens → s₁.os = s.os → its'.size = its.size - 1 → Q (.ref ll) s₁),
  wpAny (model PySem.Challenge.rw_wu0100_01.row.prog w) (ktrTop dp un gd cn cs L a ccd cl outer) (call (.ref 130) [.ref ca, .int i tk]) Q E s := by
  intro w loose mean mg mb dp un gd cn cs a ccd cl outer A₀ base h₀ L m s Q E news ca cd its p q pa fd ln mx lines i tk B F X N T hk hdp hun A M G hik hpos hret
  (refine AccL.elim A ?_; intro nd n ha h1 x1 x2 hcd ps1 t1 k1 ps2 t2 k2 W hz hp hq)
  obtain ⟨vs, c0, hln, hS⟩ := M.hln
  have e : i = ((its.size - 1 : Nat) : Int) := by omega
  subst e
  refine popf_spec B F X N T hk hdp hun (setL_upd ha nd) ha hcd (Nat.le_trans hz (by decide)) ((its.size - 1 : Nat) : Int) tk (by omega) fun ll n₁ c₁ h₁ tk₁ F₁ N₁ hlt => ?_
  rw [putSlice_from its (its.size - 1) (by omega)] at N₁
  have hsub : ∀ v ∈ ((its.toList.take (its.size - 1)).toArray).toList, v ∈ its.toList := fun v hv => List.mem_of_mem_take (by simpa using hv)
  have A1 := A.setA (n := n₁) (its' := (its.toList.take (its.size - 1)).toArray) hsub (by simp; omega)
  have A2 := A1.cons (x := ll) (o := listOf (slicePick its (some ((its.size - 1 : Nat) : Int)) none none) c₁) (setL_lt hlt)
  refine hret _ ll (slicePick its (some ((its.size - 1 : Nat) : Int)) none none) c₁ _ _ F₁ N₁ A2 (M.keep A keepA.cons) ⟨.head _, ?_, ?_, ?_⟩ keepA.cons G rfl (by simp)
  · rw [slice_from its (its.size - 1) (by omega)]
    intro v hv
    obtain ⟨T, ka, kb, e, hm⟩ := W v (List.mem_of_mem_drop (by simpa using hv))
    exact ⟨T, ka, kb, e, .tail _ (setL_ne hm (nd_ne nd hm ha tup_acc))⟩
  · intro e
    have h3 : @LT.lt Nat _ ln ll := hlt _ hln
    exact Nat.lt_irrefl ln (by rw [e] at h3; exact h3)
  · rw [slice_from its (its.size - 1) (by omega)]; simp; try omega

theorem rows_S9_1 : True := by
  k_with_none
  w_top off
  k_with "z8" => ((try (case A => assumption)); (case B => k_asm); (case F => k_asm); (case X => k_asm); (case N => first | k_asm | exact cb_drop (by k_asm) (by intro p hp; repeat (first | exact hp | apply List.Mem.tail))); (case T => k_asm); (case hk => first | exact rfl | assumption); (case hdp => ktr_room); (case hun => ktr_units); (try (case G => assumption)))
  k_with "ze" => (refine AccL.elim2 (by assumption) ?_; intros)
  k_with "zf" => (refine FmtL.elim (by assumption) ?_; intros)
  k_with "zk" => (have zq := FmtL.keepK (by assumption) (by assumption) (by assumption); revert zq; intro _)
  k_with "k_mem" => (assumption)
  k_with "k_ne" => (first | exact ne_mem1 (by with_reducible assumption) (by with_reducible assumption) | exact ne_mem2 (by with_reducible assumption) (by with_reducible assumption))
  k_with "execs cons" => (first | (k_here; k_gentoks) | ((try (rename Flow → Shared → Prop => qq; clear qq)); (try (rename Value → Shared → Prop => qq; clear qq)); refine wpAny_execs_cons ?_; (try dsimp only); k_fold))
  trivial

theorem rows_S9_2 : True := by
  k_with "k_updF" => (with_reducible assumption)
  k_with "k_inst" => (refine accI_news (by k_asm) (by k_mem) (by k_mem))
  k_with "getAttr ref" => (k_here; k_dflt (refine get_acc (by k_asm) (by k_asm) (by k_asm) (by k_mem) (by k_mem) (by k_is) (by k_is) (by k_is) (by k_get) (by k_handed) ?_; k_whole))
  k_with "getMethod ref" => (k_here; k_dflt (first | ((with_reducible show wpAny _ _ (getMethod (Value.ref _) (PySem.Str.ofString "append") _) _ _ _); refine method_acc_app (by k_asm) (by k_asm) (by k_asm) (by k_mem) (by k_mem) (by k_get) ?_; k_whole) | (refine method_acc_fn (by k_asm) (by k_asm) (by k_asm) (by k_mem) (by k_mem) (by k_is) (by k_is) (by k_get) ?_; k_whole) | ((with_reducible show wpAny _ _ (getMethod (Value.ref _) (PySem.Str.ofString "pop") _) _ _ _); refine sup_pop (by k_asm) (by k_asm) (by k_asm) (by k_mem) (by k_mem) ?_; k_whole; intro q' h' F' N' l1; (try k_lt l1); revert q' h' F' N' l1; intros) | ((with_reducible show wpAny _ _ (getMethod (Value.ref _) (PySem.Str.ofString "__len__") _) _ _ _); refine sup_len (by k_asm) (by k_asm) (by k_asm) (by k_mem) (by k_mem) ?_; k_whole; intro q' h' F' N' l1; (try k_lt l1); revert q' h' F' N' l1; intros) | ((with_reducible show wpAny _ _ (getMethod (Value.ref _) (PySem.Str.ofString "__init__") _) _ _ _); refine sup_init (by k_asm) (by k_asm) (by k_asm) (by k_mem) (by k_mem) ?_; k_whole; intro q' h' F' N' l1; (try k_lt l1); revert q' h' F' N' l1; intros)))
  k_with "call builtin:list.append" => (k_here; k_dflt (refine append_acc (by k_asm) (by k_asm) (by k_asm) (by k_updF) (by first | assumption | omega) ?_; k_whole; intro n' h' F' N'; (try dsimp only at N'); revert n' h' F' N'; intros))
  k_with "callWith ref" => (k_here; k_dflt ((with_reducible show wpAny _ _ (callWith _ (Value.ref _) [] (backTo _ (starEach [] _)) []) _ _ _); refine bm_callWith (by k_asm) (by k_mem) (by first | exact .inl rfl | exact .inr rfl) ?_; k_whole; (try dsimp only [List.nil_append])))
  k_with "call ref" => (k_here; k_dflt (first | (refine bm_call_len (by k_asm) (by k_asm) (by k_asm) (by k_mem) (by k_mem) ?_; k_whole) | (refine bm_call_init (by k_asm) (by k_asm) (by k_asm) (by k_mem) (by k_updF) ?_; k_whole; intro n' h' F' N'; (try dsimp only at N'); revert n' h' F' N'; intros) | (refine bm_call_pop (by k_asm) (by k_asm) (by k_asm) (by k_mem) (by k_updF) (by first | assumption | omega) (by assumption) ?_; k_whole; intro n' h' F' N'; (try dsimp only at N'); revert n' h' F' N'; intros)))
  k_with "wpAt" => ((fail_if_success ks_step "execs cons"); dsimp only; ks_step "execs cons"; refine ks_wpAt_execs_cons ?_)
  k_with "wpAt" => (ks_step "eval Call"; k_dflt (refine ks_wpAt_MethodCall ?_))
  k_with "k_ne" => (first | exact ne_mem1 (by with_reducible assumption) (by with_reducible assumption) | exact ne_mem1 (And.right (by with_reducible assumption)) (by with_reducible assumption) | exact ne_mem1 (And.right (And.right (by with_reducible assumption))) (by with_reducible assumption) | exact ne_mem1 (And.right (And.right (And.right (by with_reducible assumption)))) (by with_reducible assumption) | exact ne_mem1 (And.right (And.right (And.right (And.right (by with_reducible assumption))))) (by with_reducible assumption) | exact ne_mem1 (And.right (And.right (And.right (And.right (And.right (by with_reducible assumption)))))) (by with_reducible assumption) | exact ne_mem1 (And.right (And.right (And.right (And.right (And.right (And.right (by with_reducible assumption))))))) (by with_reducible assumption))
  k_with "subscriptTail" => (k_here; (with_reducible show wpAny _ _ (subscriptTail _ _ (Value.ref _) (Value.int _ _)) _ _ _); k_dflt (refine acc_itemTail (by k_asm) (by k_asm) (by k_asm) (by k_mem) (by first | assumption | omega) (by omega) (by assumption) (by with_unfolding_all rfl) ?_; k_whole))
  k_with "subscriptTail" => (k_here; (with_reducible show wpAny _ _ (subscriptTail _ _ (Value.ref _) (Value.ref _)) _ _ _); k_dflt (refine acc_sliceTail (by k_asm) (by k_asm) (by k_asm) (by k_mem) (by first | exact IsPart.none | exact IsPart.int _ _) (by first | exact IsPart.none | exact IsPart.int _ _) (by first | assumption | omega) (by with_unfolding_all rfl) ?_; k_whole; intro l' h' F' N' l1; (try k_lt l1); revert l' h' F' N' l1; intros))
  k_with "setItem ref" => (k_here; k_dflt (refine acc_sliceSet (by k_asm) (by k_asm) (by k_asm) (by k_updF) (by first | exact IsPart.none | exact IsPart.int _ _) (by first | exact IsPart.none | exact IsPart.int _ _) (by k_mem) (by first | assumption | omega) (by first | assumption | decide | (simp; done) | omega) ?_; k_whole; intro n' h' F' N'; (try dsimp only at N'); revert n' h' F' N'; intros))
  k_with "setAttr ref" => (k_here; k_dflt (refine set_acc (by k_asm) (by k_asm) (by k_asm) (by k_mem) (by k_is) (by k_is) (by k_get) (by k_put) (by k_upd) (by simp) ?_; k_whole; intro h' F' N'; (try dsimp only at N'); revert h' F' N'; intros))
  k_with "k_mem" => (first | with_reducible assumption | with_reducible exact List.Mem.head _ | with_reducible exact List.Mem.tail _ (by assumption) | with_reducible exact List.Mem.tail _ (List.Mem.tail _ (by assumption)) | with_reducible exact List.Mem.tail _ (List.Mem.tail _ (List.Mem.tail _ (by assumption))))
  k_with "truthy ref" => (k_here; k_dflt (refine truthy_len (by k_asm) (by k_asm) (by k_inst) (by k_is) (by k_is) (by k_is) ?_; k_whole))
  k_with "call type:str" => (k_here; (with_reducible show wpAny _ _ (call (Value.type "str") [Value.ref _]) _ _ _); k_dflt (refine kso_call (by ktr_units) (by k_in) (by k_inst) (by k_is) (by k_is) ?_; k_whole))
  k_with "call ref" => (k_here; k_dflt ((with_reducible show wpAny _ _ (call (Value.ref 145) _ _) _ _ _); (apply len_A; walk_at "z8"; k_whole; intros; walk_at "ze"; walk_at "zk"; walk_at "zf"; (dsimp only [PySem.W.LenBack]; refine ⟨⟨by omega, by omega⟩, ?_⟩; try dsimp only))))
  k_with "call ref" => (k_here; k_dflt ((with_reducible show wpAny _ _ (call (Value.ref 122) _ _) _ _ _); (apply push_A; walk_at "z8"; (case hz1 => omega); k_whole; intros; walk_at "ze"; walk_at "zk"; walk_at "zf")))
  k_with "call ref" => (k_here; k_dflt ((with_reducible show wpAny _ _ (call (Value.ref 175) _ _) _ _ _); (apply pc_spec; walk_at "z8"; (· k_mem); (· k_mem); (· omega); k_whole; intros)))
  k_with "compareOp Gt int int" => (refine gt_no (by solve_by_elim) ?_)
  k_with "execs cons" => (first | (k_here; k_gentoks) | ((try (rename Flow → Shared → Prop => qq; clear qq)); (try (rename Value → Shared → Prop => qq; clear qq)); refine wpAny_execs_cons ?_; (try dsimp only); k_fold))
  trivial
theorem chunk_no : ∀ {w : World} {loose : List Str} {mean : ExcName → Option Value} {mg mb : Str → Option Value} {dp un : Nat} {gd : Option (List Code)} {cn : Str} {cs : Scope} {a : Addr} {ccd : Value} {cl : List (Str × Addr)} {outer : List Env} {A₀ : Around} {base h₀ : Heap} {L : Addr} {m : Str → Option Value} {s : Shared} {Q E : Value → Shared → Prop} {news : List (Addr × Obj)} {ca cd : Nat} {its : Array Value} {q : Str} {pa fd ln : Addr} {mx : Int} {lines : List Str} {ka kb : Tok}
  (B : Below A₀ base outer h₀) (F : Fr h₀ L s.heap m) (X : (fr.heap_1 w.params).In h₀) (N : News h₀ L s.heap news) (T : Top topProg loose mean mg mb h₀) (hk : cs.kind = .function) (hdp : dp + 20 < recursionLimit) (hun : un + 260 < cLine) (A : AccL news ca cd its (Str.ofString " ") q) (M : FmtL news pa fd ca ln mx lines) (G : AllBare s.gens) (hsq : PyData.strOk q = true) (hpq : 1 ≤ q.length) (hz1 : its.size ≤ 90) (hno : ∀ n, n = its.size + 1 → ((n * ((Str.ofString " ").length + q.length) : Nat) : Int) ≤ mx) (hret : ∀ (its' : Array Value) (s₁ : Shared) (news₁ : List (Addr × Obj)) (lines₁ : List Str), Fr h₀ L s₁.heap m → News h₀ L s₁.heap news₁ → AccL news₁ ca cd its' (Str.ofString " ") q → FmtL news₁ pa fd ca ln mx lines₁ → KeepP ca cd ln news news₁ → AllBare s₁.gens → s₁.os = s.os → lines₁ = lines → its'.size = its.size + 1 → Q .none s₁),
  wpAny (model PySem.Challenge.rw_wu0100_01.row.prog w) (ktrTop dp un gd cn cs L a ccd cl outer) (call (.ref 91) [.ref pa, .str (Str.ofString " ") ka, .str q kb]) Q E s := by
  k_fill
  intro w loose mean mg mb dp un gd cn cs a ccd cl outer A₀ base h₀ L m s Q E news ca cd its q pa fd ln mx lines ka kb B F X N T hk hdp hun A M G hsq hpq hz1 hno hret
  refine wpAny_call ?_
  k_dflt (refine' code_def ?k1 ?k2 ?k3 ?k4 ?k5 ?kA ?kF ?kK ?k6 ?k7 ?k8 ?k9 ?kB ?_ ?c2 ?c3 ?c4 ?c5; (case kA => exact rfl); (case kF => exact rfl); (case kK => first | exact rfl | assumption); (case k1 => k_asm); (case k2 => k_asm); (case k3 => k_asm); (case k4 => k_asm); (case k5 => k_asm); (case k6 => k_is); (case k7 => k_is); (case k8 => ktr_room); (case k9 => first | exact BindsTo.of_eq rfl | exact binds_K (by k_in) rfl (by k_is) rfl rfl rfl); (case c5 => decide); (case kB => exact locs rfl); (case c2 => exact rfl); (case c3 => exact rfl); (case c4 => exact rfl); k_whole; intro g' L' h' FG' F' N' B' X' T'; (try dsimp only); (try k_lift B'); (try k_fold))
  (refine AccL.elim A ?_; intro nd n ha h1 x1 x2 hcd ps1 t1 k1 ps2 t2 k2 W hz hp hq)
  (refine FmtL.elim M ?_; intro hpa a1 a2 a3 a4 a5 a6 y1 y2 y3 y4 y5 y6 u1 u2 u3 u4  hfd vs c hln hS hzl)
  k_steps
  all_goals (refine' hret _ _ _ _ ?eF ?eN ?eA ?eM ?eK ?eG ?eO ?eL ?eZ; (case eF => k_asm); (case eA => assumption); (case eN => first | k_asm | exact cb_drop (by k_asm) (by intro p hp; repeat (first | exact hp | apply List.Mem.tail))); (case eM => assumption); (case eK => first | exact KeepP.rfl | exact (by first | assumption | exact KeepL.toP (by assumption)) | exact (KeepP.trans (by first | assumption | exact KeepL.toP (by assumption)) (by first | assumption | exact KeepL.toP (by assumption))) | exact (KeepP.trans (by first | assumption | exact KeepL.toP (by assumption)) (KeepP.trans (by first | assumption | exact KeepL.toP (by assumption)) (by first | assumption | exact KeepL.toP (by assumption)))) | exact (KeepP.trans (by first | assumption | exact KeepL.toP (by assumption)) (KeepP.trans (by first | assumption | exact KeepL.toP (by assumption)) (KeepP.trans (by first | assumption | exact KeepL.toP (by assumption)) (by first | assumption | exact KeepL.toP (by assumption))))) | exact (KeepP.trans (by first | assumption | exact KeepL.toP (by assumption)) (KeepP.trans (by first | assumption | exact KeepL.toP (by assumption)) (KeepP.trans (by first | assumption | exact KeepL.toP (by assumption)) (KeepP.trans (by first | assumption | exact KeepL.toP (by assumption)) (by first | assumption | exact KeepL.toP (by assumption)))))) | exact (KeepP.trans (by first | assumption | exact KeepL.toP (by assumption)) (KeepP.trans (by first | assumption | exact KeepL.toP (by assumption)) (KeepP.trans (by first | assumption | exact KeepL.toP (by assumption)) (KeepP.trans (by first | assumption | exact KeepL.toP (by assumption)) (KeepP.trans (by first | assumption | exact KeepL.toP (by assumption)) (by first | assumption | exact KeepL.toP (by assumption))))))) | exact (KeepP.trans (by first | assumption | exact KeepL.toP (by assumption)) (KeepP.trans (by first | assumption | exact KeepL.toP (by assumption)) (KeepP.trans (by first | assumption | exact KeepL.toP (by assumption)) (KeepP.trans (by first | assumption | exact KeepL.toP (by assumption)) (KeepP.trans (by first | assumption | exact KeepL.toP (by assumption)) (KeepP.trans (by first | assumption | exact KeepL.toP (by assumption)) (by first | assumption | exact KeepL.toP (by assumption)))))))) | exact (KeepP.trans (by first | assumption | exact KeepL.toP (by assumption)) (KeepP.trans (by first | assumption | exact KeepL.toP (by assumption)) (KeepP.trans (by first | assumption | exact KeepL.toP (by assumption)) (KeepP.trans (by first | assumption | exact KeepL.toP (by assumption)) (KeepP.trans (by first | assumption | exact KeepL.toP (by assumption)) (KeepP.trans (by first | assumption | exact KeepL.toP (by assumption)) (KeepP.trans (by first | assumption | exact KeepL.toP (by assumption)) (by first | assumption | exact KeepL.toP (by assumption))))))))) | exact (KeepP.trans (by first | assumption | exact KeepL.toP (by assumption)) (KeepP.trans (by first | assumption | exact KeepL.toP (by assumption)) (KeepP.trans (by first | assumption | exact KeepL.toP (by assumption)) (KeepP.trans (by first | assumption | exact KeepL.toP (by assumption)) (KeepP.trans (by first | assumption | exact KeepL.toP (by assumption)) (KeepP.trans (by first | assumption | exact KeepL.toP (by assumption)) (KeepP.trans (by first | assumption | exact KeepL.toP (by assumption)) (KeepP.trans (by first | assumption | exact KeepL.toP (by assumption)) (by first | assumption | exact KeepL.toP (by assumption)))))))))) | exact (KeepP.trans (by first | assumption | exact KeepL.toP (by assumption)) (KeepP.trans (by first | assumption | exact KeepL.toP (by assumption)) (KeepP.trans (by first | assumption | exact KeepL.toP (by assumption)) (KeepP.trans (by first | assumption | exact KeepL.toP (by assumption)) (KeepP.trans (by first | assumption | exact KeepL.toP (by assumption)) (KeepP.trans (by first | assumption | exact KeepL.toP (by assumption)) (KeepP.trans (by first | assumption | exact KeepL.toP (by assumption)) (KeepP.trans (by first | assumption | exact KeepL.toP (by assumption)) (KeepP.trans (by first | assumption | exact KeepL.toP (by assumption)) (by first | assumption | exact KeepL.toP (by assumption)))))))))))); (case eG => assumption); (case eO => simp only [*]); (case eL => rfl); (case eZ => omega))
end
section
open PySem PySem.Spec PySem.Calls PySem.W PyProof.Rows
set_option maxRecDepth 100000
set_option maxHeartbeats 0
theorem small_dn {a : Int} {k : Nat} (e : a = (k : Int)) (h : 1 ≤ k) (hk : k ≤ 1000) : Builtin.Range.small a 0 (-1) = true := by rw [e]; exact small_down h hk
theorem pos_dn {a : Int} {k : Nat} (e : a = (k : Int)) (h : 1 ≤ k) : 0 < Builtin.Range.rangeSize a 0 (-1) := by rw [e, rangeSize_down h]; omega

theorem rows_S10_1 : True := by
  k_with_none
  w_top off
  k_with "z8" => ((try (case A => assumption)); (case B => k_asm); (case F => k_asm); (case X => k_asm); (case N => first | k_asm | exact cb_drop (by k_asm) (by intro p hp; repeat (first | exact hp | apply List.Mem.tail))); (case T => k_asm); (case hk => first | exact rfl | assumption); (case hdp => ktr_room); (case hun => ktr_units); (try (case G => assumption)))
  k_with "ze" => (refine AccL.elim2 (by assumption) ?_; intros)
  k_with "zf" => (refine FmtL.elim (by assumption) ?_; intros)
  k_with "zk" => (have zq := FmtL.keepK (by assumption) (by assumption) (by assumption); revert zq; intro _)
  k_with "k_mem" => (assumption)
  k_with "k_ne" => (first | exact ne_mem1 (by with_reducible assumption) (by with_reducible assumption) | exact ne_mem2 (by with_reducible assumption) (by with_reducible assumption))
  k_with "execs cons" => (first | (k_here; k_gentoks) | ((try (rename Flow → Shared → Prop => qq; clear qq)); (try (rename Value → Shared → Prop => qq; clear qq)); refine wpAny_execs_cons ?_; (try dsimp only); k_fold))
  trivial

theorem rows_S10_2 : True := by
  k_with "k_updF" => (with_reducible assumption)
  k_with "k_inst" => (refine accI_news (by k_asm) (by k_mem) (by k_mem))
  k_with "getAttr ref" => (k_here; k_dflt (refine get_acc (by k_asm) (by k_asm) (by k_asm) (by k_mem) (by k_mem) (by k_is) (by k_is) (by k_is) (by k_get) (by k_handed) ?_; k_whole))
  k_with "getMethod ref" => (k_here; k_dflt (first | ((with_reducible show wpAny _ _ (getMethod (Value.ref _) (PySem.Str.ofString "append") _) _ _ _); refine method_acc_app (by k_asm) (by k_asm) (by k_asm) (by k_mem) (by k_mem) (by k_get) ?_; k_whole) | (refine method_acc_fn (by k_asm) (by k_asm) (by k_asm) (by k_mem) (by k_mem) (by k_is) (by k_is) (by k_get) ?_; k_whole) | ((with_reducible show wpAny _ _ (getMethod (Value.ref _) (PySem.Str.ofString "pop") _) _ _ _); refine sup_pop (by k_asm) (by k_asm) (by k_asm) (by k_mem) (by k_mem) ?_; k_whole; intro q' h' F' N' l1; (try k_lt l1); revert q' h' F' N' l1; intros) | ((with_reducible show wpAny _ _ (getMethod (Value.ref _) (PySem.Str.ofString "__len__") _) _ _ _); refine sup_len (by k_asm) (by k_asm) (by k_asm) (by k_mem) (by k_mem) ?_; k_whole; intro q' h' F' N' l1; (try k_lt l1); revert q' h' F' N' l1; intros) | ((with_reducible show wpAny _ _ (getMethod (Value.ref _) (PySem.Str.ofString "__init__") _) _ _ _); refine sup_init (by k_asm) (by k_asm) (by k_asm) (by k_mem) (by k_mem) ?_; k_whole; intro q' h' F' N' l1; (try k_lt l1); revert q' h' F' N' l1; intros)))
  k_with "call builtin:list.append" => (k_here; k_dflt (refine append_acc (by k_asm) (by k_asm) (by k_asm) (by k_updF) (by first | assumption | omega) ?_; k_whole; intro n' h' F' N'; (try dsimp only at N'); revert n' h' F' N'; intros))
  k_with "callWith ref" => (k_here; k_dflt ((with_reducible show wpAny _ _ (callWith _ (Value.ref _) [] (backTo _ (starEach [] _)) []) _ _ _); refine bm_callWith (by k_asm) (by k_mem) (by first | exact .inl rfl | exact .inr rfl) ?_; k_whole; (try dsimp only [List.nil_append])))
  k_with "call ref" => (k_here; k_dflt (first | (refine bm_call_len (by k_asm) (by k_asm) (by k_asm) (by k_mem) (by k_mem) ?_; k_whole) | (refine bm_call_init (by k_asm) (by k_asm) (by k_asm) (by k_mem) (by k_updF) ?_; k_whole; intro n' h' F' N'; (try dsimp only at N'); revert n' h' F' N'; intros) | (refine bm_call_pop (by k_asm) (by k_asm) (by k_asm) (by k_mem) (by k_updF) (by first | assumption | omega) (by assumption) ?_; k_whole; intro n' h' F' N'; (try dsimp only at N'); revert n' h' F' N'; intros)))
  k_with "wpAt" => ((fail_if_success ks_step "execs cons"); dsimp only; ks_step "execs cons"; refine ks_wpAt_execs_cons ?_)
  k_with "wpAt" => (ks_step "eval Call"; k_dflt (refine ks_wpAt_MethodCall ?_))
  k_with "k_ne" => (first | exact ne_mem1 (by with_reducible assumption) (by with_reducible assumption) | exact ne_mem1 (And.right (by with_reducible assumption)) (by with_reducible assumption) | exact ne_mem1 (And.right (And.right (by with_reducible assumption))) (by with_reducible assumption) | exact ne_mem1 (And.right (And.right (And.right (by with_reducible assumption)))) (by with_reducible assumption) | exact ne_mem1 (And.right (And.right (And.right (And.right (by with_reducible assumption))))) (by with_reducible assumption) | exact ne_mem1 (And.right (And.right (And.right (And.right (And.right (by with_reducible assumption)))))) (by with_reducible assumption) | exact ne_mem1 (And.right (And.right (And.right (And.right (And.right (And.right (by with_reducible assumption))))))) (by with_reducible assumption))
  k_with "subscriptTail" => (k_here; (with_reducible show wpAny _ _ (subscriptTail _ _ (Value.ref _) (Value.int _ _)) _ _ _); k_dflt (refine acc_itemTail (by k_asm) (by k_asm) (by k_asm) (by k_mem) (by first | assumption | omega) (by omega) (by assumption) (by with_unfolding_all rfl) ?_; k_whole))
  k_with "subscriptTail" => (k_here; (with_reducible show wpAny _ _ (subscriptTail _ _ (Value.ref _) (Value.ref _)) _ _ _); k_dflt (refine acc_sliceTail (by k_asm) (by k_asm) (by k_asm) (by k_mem) (by first | exact IsPart.none | exact IsPart.int _ _) (by first | exact IsPart.none | exact IsPart.int _ _) (by first | assumption | omega) (by with_unfolding_all rfl) ?_; k_whole; intro l' h' F' N' l1; (try k_lt l1); revert l' h' F' N' l1; intros))
  k_with "setItem ref" => (k_here; k_dflt (refine acc_sliceSet (by k_asm) (by k_asm) (by k_asm) (by k_updF) (by first | exact IsPart.none | exact IsPart.int _ _) (by first | exact IsPart.none | exact IsPart.int _ _) (by k_mem) (by first | assumption | omega) (by first | assumption | decide | (simp; done) | omega) ?_; k_whole; intro n' h' F' N'; (try dsimp only at N'); revert n' h' F' N'; intros))
  k_with "setAttr ref" => (k_here; k_dflt (refine set_acc (by k_asm) (by k_asm) (by k_asm) (by k_mem) (by k_is) (by k_is) (by k_get) (by k_put) (by k_upd) (by simp) ?_; k_whole; intro h' F' N'; (try dsimp only at N'); revert h' F' N'; intros))
  k_with "k_mem" => (first | with_reducible assumption | with_reducible exact List.Mem.head _ | with_reducible exact List.Mem.tail _ (by assumption) | with_reducible exact List.Mem.tail _ (List.Mem.tail _ (by assumption)) | with_reducible exact List.Mem.tail _ (List.Mem.tail _ (List.Mem.tail _ (by assumption))))
  k_with "truthy ref" => (k_here; k_dflt (refine truthy_len (by k_asm) (by k_asm) (by k_inst) (by k_is) (by k_is) (by k_is) ?_; k_whole))
  k_with "call type:str" => (k_here; (with_reducible show wpAny _ _ (call (Value.type "str") [Value.ref _]) _ _ _); k_dflt (refine kso_call (by ktr_units) (by k_in) (by k_inst) (by k_is) (by k_is) ?_; k_whole))
  k_with "call ref" => (k_here; k_dflt ((with_reducible show wpAny _ _ (call (Value.ref 145) _ _) _ _ _); (apply len_A; walk_at "z8"; k_whole; intros; walk_at "ze"; walk_at "zk"; walk_at "zf"; (dsimp only [PySem.W.LenBack]; refine ⟨⟨by omega, by omega⟩, ?_⟩; try dsimp only))))
  k_with "call ref" => (k_here; k_dflt ((with_reducible show wpAny _ _ (call (Value.ref 122) _ _) _ _ _); (apply push_A; walk_at "z8"; (case hz1 => omega); k_whole; intros; walk_at "ze"; walk_at "zk"; walk_at "zf")))
  k_with "call ref" => (k_here; k_dflt ((with_reducible show wpAny _ _ (call (Value.ref 175) _ _) _ _ _); (apply pc_spec; walk_at "z8"; (· k_mem); (· k_mem); (· omega); k_whole; intros)))
  k_with "exec For" => (refine For_first ?_ (by intro _; rfl) (by intro _ _; rfl))
  k_with "call ref" => (k_here; k_dflt ((with_reducible show wpAny _ _ (call (Value.ref 152) _ _) _ _ _); (apply str_A; walk_at "z8"; k_whole; intro tk₁ s₁ news₁ F' N' A' K' G' os₁; walk_at "ze"; walk_at "zk"; walk_at "zf"; (try dsimp only [PySem.W.StrBack]); (try (have R' := RemL.keepL (by assumption) (by assumption) K')); (try (revert R'; intro _)); revert tk₁ s₁ news₁ F' N' A' K' G' os₁; intros)))
  k_with "call builtin:list.append" => (k_here; k_dflt (refine app_P (by k_asm) (by k_asm) (by assumption) (by assumption) (by omega) ?_; k_whole; intro news₁ h' F' N' A' M' KP'; (try (have R' := RemL.keepP (by assumption) (by assumption) (by assumption) KP')); walk_at "ze"; walk_at "zf"; (try (revert R'; intro _)); revert news₁ h' F' N' A' M' KP'; intros))
  k_with "call ref" => (k_here; k_dflt ((with_reducible show wpAny _ _ (call (Value.ref 130) _ _) _ _ _); (apply popr_P; walk_at "z8"; (case M => assumption); (case hik => first | rfl | omega); (case hpos => omega); k_whole; intro its₁ ll₁ new₁ c₁ s₁ news₁ F' N' A' M' R' K' G' os₁ hsz₁; walk_at "ze"; walk_at "zf"; (have hrz₁ := RemL.sz R'); revert its₁ ll₁ new₁ c₁ s₁ news₁ F' N' A' M' R' K' G' os₁ hsz₁ hrz₁; intros)))
  k_with "call ref" => (k_here; k_dflt ((with_reducible show wpAny _ _ (call (Value.ref 160) _ _) _ _ _); (apply resetl_A; walk_at "z8"; (case hl => exact RemL.h (by assumption)); (case hW => exact RemL.W (by assumption)); (case hzn => omega); k_whole; intros; walk_at "ze"; walk_at "zk"; walk_at "zf")))
  k_with "compareOp Gt int int" => (refine gt_yes (by solve_by_elim) ?_)
  k_with "execs cons" => (first | (k_here; k_gentoks) | ((try (rename Flow → Shared → Prop => qq; clear qq)); (try (rename Value → Shared → Prop => qq; clear qq)); refine wpAny_execs_cons ?_; (try dsimp only); k_fold))
  trivial
theorem chunk_yes : ∀ {w : World} {loose : List Str} {mean : ExcName → Option Value} {mg mb : Str → Option Value} {dp un : Nat} {gd : Option (List Code)} {cn : Str} {cs : Scope} {a : Addr} {ccd : Value} {cl : List (Str × Addr)} {outer : List Env} {A₀ : Around} {base h₀ : Heap} {L : Addr} {m : Str → Option Value} {s : Shared} {Q E : Value → Shared → Prop} {news : List (Addr × Obj)} {ca cd : Nat} {its : Array Value} {q : Str} {pa fd ln : Addr} {mx : Int} {lines : List Str} {ka kb : Tok}
  (B : Below A₀ base outer h₀) (F : Fr h₀ L s.heap m) (X : (fr.heap_1 w.params).In h₀) (N : News h₀ L s.heap news) (T : Top topProg loose mean mg mb h₀) (hk : cs.kind = .function) (hdp : dp + 20 < recursionLimit) (hun : un + 260 < cLine) (A : AccL news ca cd its (Str.ofString " ") q) (M : FmtL news pa fd ca ln mx lines) (G : AllBare s.gens) (hsq : PyData.strOk q = true) (hpq : 1 ≤ q.length) (hz1 : its.size ≤ 90) (hz0 : 1 ≤ its.size) (hzl9 : lines.length ≤ 99) (hyes : ∀ n, n = its.size + 1 → mx < ((n * ((Str.ofString " ").length + q.length) : Nat) : Int)) (hret : ∀ (its' : Array Value) (s₁ : Shared) (news₁ : List (Addr × Obj)) (lines₁ : List Str), Fr h₀ L s₁.heap m → News h₀ L s₁.heap news₁ → AccL news₁ ca cd its' (Str.ofString " ") q → FmtL news₁ pa fd ca ln mx lines₁ → KeepP ca cd ln news news₁ → AllBare s₁.gens → s₁.os = s.os → lines₁ = lines ++ [Txt.join (Str.ofString "") (List.replicate its.size ((Str.ofString " ") ++ q))] → its'.size = 1 → Q .none s₁),
  wpAny (model PySem.Challenge.rw_wu0100_01.row.prog w) (ktrTop dp un gd cn cs L a ccd cl outer) (call (.ref 91) [.ref pa, .str (Str.ofString " ") ka, .str q kb]) Q E s := by
  k_fill
  intro w loose mean mg mb dp un gd cn cs a ccd cl outer A₀ base h₀ L m s Q E news ca cd its q pa fd ln mx lines ka kb B F X N T hk hdp hun A M G hsq hpq hz1 hz0 hzl9 hyes hret
  refine wpAny_call ?_
  k_dflt (refine' code_def ?k1 ?k2 ?k3 ?k4 ?k5 ?kA ?kF ?kK ?k6 ?k7 ?k8 ?k9 ?kB ?_ ?c2 ?c3 ?c4 ?c5; (case kA => exact rfl); (case kF => exact rfl); (case kK => first | exact rfl | assumption); (case k1 => k_asm); (case k2 => k_asm); (case k3 => k_asm); (case k4 => k_asm); (case k5 => k_asm); (case k6 => k_is); (case k7 => k_is); (case k8 => ktr_room); (case k9 => first | exact BindsTo.of_eq rfl | exact binds_K (by k_in) rfl (by k_is) rfl rfl rfl); (case c5 => decide); (case kB => exact locs rfl); (case c2 => exact rfl); (case c3 => exact rfl); (case c4 => exact rfl); k_whole; intro g' L' h' FG' F' N' B' X' T'; (try dsimp only); (try k_lift B'); (try k_fold))
  (refine AccL.elim A ?_; intro nd n ha h1 x1 x2 hcd ps1 t1 k1 ps2 t2 k2 W hz hp hq)
  (refine FmtL.elim M ?_; intro hpa a1 a2 a3 a4 a5 a6 y1 y2 y3 y4 y5 y6 u1 u2 u3 u4  hfd vs c hln hS hzl)
  k_steps
  refine first_str (c := 32) (by decide) rfl (by k_asm) (by k_asm) ?_
  intro u9 h9 tk9 F9 N9 E9
  k_steps
  refine first_range (by assumption) (small_dn (k := its.size) (by omega) (by omega) (by omega)) (pos_dn (k := its.size) (by omega) (by omega)) (by k_asm) (by k_asm) ?_
  intro u8 h8 tk8 F8 N8 E8
  obtain ⟨T9, k9, k8, hi9, hT9⟩ := Words.last (by assumption) (by omega)
  k_steps
  all_goals (refine' hret _ _ _ _ ?eF ?eN ?eA ?eM ?eK ?eG ?eO ?eL ?eZ; (case eF => k_asm); (case eA => assumption); (case eN => first | k_asm | exact cb_drop (by k_asm) (by intro p hp; repeat (first | exact hp | apply List.Mem.tail))); (case eM => assumption); (case eK => first | exact KeepP.rfl | exact (by first | assumption | exact KeepL.toP (by assumption)) | exact (KeepP.trans (by first | assumption | exact KeepL.toP (by assumption)) (by first | assumption | exact KeepL.toP (by assumption))) | exact (KeepP.trans (by first | assumption | exact KeepL.toP (by assumption)) (KeepP.trans (by first | assumption | exact KeepL.toP (by assumption)) (by first | assumption | exact KeepL.toP (by assumption)))) | exact (KeepP.trans (by first | assumption | exact KeepL.toP (by assumption)) (KeepP.trans (by first | assumption | exact KeepL.toP (by assumption)) (KeepP.trans (by first | assumption | exact KeepL.toP (by assumption)) (by first | assumption | exact KeepL.toP (by assumption))))) | exact (KeepP.trans (by first | assumption | exact KeepL.toP (by assumption)) (KeepP.trans (by first | assumption | exact KeepL.toP (by assumption)) (KeepP.trans (by first | assumption | exact KeepL.toP (by assumption)) (KeepP.trans (by first | assumption | exact KeepL.toP (by assumption)) (by first | assumption | exact KeepL.toP (by assumption)))))) | exact (KeepP.trans (by first | assumption | exact KeepL.toP (by assumption)) (KeepP.trans (by first | assumption | exact KeepL.toP (by assumption)) (KeepP.trans (by first | assumption | exact KeepL.toP (by assumption)) (KeepP.trans (by first | assumption | exact KeepL.toP (by assumption)) (KeepP.trans (by first | assumption | exact KeepL.toP (by assumption)) (by first | assumption | exact KeepL.toP (by assumption))))))) | exact (KeepP.trans (by first | assumption | exact KeepL.toP (by assumption)) (KeepP.trans (by first | assumption | exact KeepL.toP (by assumption)) (KeepP.trans (by first | assumption | exact KeepL.toP (by assumption)) (KeepP.trans (by first | assumption | exact KeepL.toP (by assumption)) (KeepP.trans (by first | assumption | exact KeepL.toP (by assumption)) (KeepP.trans (by first | assumption | exact KeepL.toP (by assumption)) (by first | assumption | exact KeepL.toP (by assumption)))))))) | exact (KeepP.trans (by first | assumption | exact KeepL.toP (by assumption)) (KeepP.trans (by first | assumption | exact KeepL.toP (by assumption)) (KeepP.trans (by first | assumption | exact KeepL.toP (by assumption)) (KeepP.trans (by first | assumption | exact KeepL.toP (by assumption)) (KeepP.trans (by first | assumption | exact KeepL.toP (by assumption)) (KeepP.trans (by first | assumption | exact KeepL.toP (by assumption)) (KeepP.trans (by first | assumption | exact KeepL.toP (by assumption)) (by first | assumption | exact KeepL.toP (by assumption))))))))) | exact (KeepP.trans (by first | assumption | exact KeepL.toP (by assumption)) (KeepP.trans (by first | assumption | exact KeepL.toP (by assumption)) (KeepP.trans (by first | assumption | exact KeepL.toP (by assumption)) (KeepP.trans (by first | assumption | exact KeepL.toP (by assumption)) (KeepP.trans (by first | assumption | exact KeepL.toP (by assumption)) (KeepP.trans (by first | assumption | exact KeepL.toP (by assumption)) (KeepP.trans (by first | assumption | exact KeepL.toP (by assumption)) (KeepP.trans (by first | assumption | exact KeepL.toP (by assumption)) (by first | assumption | exact KeepL.toP (by assumption)))))))))) | exact (KeepP.trans (by first | assumption | exact KeepL.toP (by assumption)) (KeepP.trans (by first | assumption | exact KeepL.toP (by assumption)) (KeepP.trans (by first | assumption | exact KeepL.toP (by assumption)) (KeepP.trans (by first | assumption | exact KeepL.toP (by assumption)) (KeepP.trans (by first | assumption | exact KeepL.toP (by assumption)) (KeepP.trans (by first | assumption | exact KeepL.toP (by assumption)) (KeepP.trans (by first | assumption | exact KeepL.toP (by assumption)) (KeepP.trans (by first | assumption | exact KeepL.toP (by assumption)) (KeepP.trans (by first | assumption | exact KeepL.toP (by assumption)) (by first | assumption | exact KeepL.toP (by assumption)))))))))))); (case eG => assumption); (case eO => simp only [*]); (case eL => exact row_eq (by omega)); (case eZ => omega))
end
section
open PySem PySem.Spec PySem.Calls PySem.W PyProof.Rows
set_option maxRecDepth 100000
set_option maxHeartbeats 0
theorem join_P {w : World} {A : Around} {E : Value → Shared → Prop} {s : Shared} {h₀ : Heap} {L : Addr} {news : List (Addr × Obj)} {pa fd ca ln : Addr} {mx : Int} {lines : List Str} {x : Str} {t : Tok} {Q : Value → Shared → Prop} (N : News h₀ L s.heap news) (M : FmtL news pa fd ca ln mx lines) (hsep : x.length ≤ 64)
    (hok : (lines.map (·.length)).sum + lines.length * 64 ≤ 16777216) (h : ∀ t' k, Q (.str (Txt.join x lines) t') { s with toks := k }) : wpAny (model PG w) A (call (.builtin "str.join") [.str x t, .ref ln]) Q E s := by
  obtain ⟨vs, c, hln, hS⟩ := M.hln
  exact join_listC ⟨_, (N _ hln).1, rfl, _, rfl⟩ hS hsep hok h

theorem rows_S11_1 : True := by
  k_with_none
  w_top off
  k_with "z8" => ((try (case A => assumption)); (case B => k_asm); (case F => k_asm); (case X => k_asm); (case N => first | k_asm | exact cb_drop (by k_asm) (by intro p hp; repeat (first | exact hp | apply List.Mem.tail))); (case T => k_asm); (case hk => first | exact rfl | assumption); (case hdp => ktr_room); (case hun => ktr_units); (try (case G => assumption)))
  k_with "k_mem" => (assumption)
  k_with "k_ne" => (first | exact ne_mem1 (by with_reducible assumption) (by with_reducible assumption) | exact ne_mem2 (by with_reducible assumption) (by with_reducible assumption))
  k_with "execs cons" => (first | (k_here; k_gentoks) | ((try (rename Flow → Shared → Prop => qq; clear qq)); (try (rename Value → Shared → Prop => qq; clear qq)); refine wpAny_execs_cons ?_; (try dsimp only); k_fold))
  trivial

theorem rows_S11_2 : True := by
  k_with "k_updF" => (with_reducible assumption)
  k_with "k_inst" => (refine accI_news (by k_asm) (by k_mem) (by k_mem))
  k_with "getAttr ref" => (k_here; k_dflt (refine get_acc (by k_asm) (by k_asm) (by k_asm) (by k_mem) (by k_mem) (by k_is) (by k_is) (by k_is) (by k_get) (by k_handed) ?_; k_whole))
  k_with "getMethod ref" => (k_here; k_dflt (first | ((with_reducible show wpAny _ _ (getMethod (Value.ref _) (PySem.Str.ofString "append") _) _ _ _); refine method_acc_app (by k_asm) (by k_asm) (by k_asm) (by k_mem) (by k_mem) (by k_get) ?_; k_whole) | (refine method_acc_fn (by k_asm) (by k_asm) (by k_asm) (by k_mem) (by k_mem) (by k_is) (by k_is) (by k_get) ?_; k_whole) | ((with_reducible show wpAny _ _ (getMethod (Value.ref _) (PySem.Str.ofString "pop") _) _ _ _); refine sup_pop (by k_asm) (by k_asm) (by k_asm) (by k_mem) (by k_mem) ?_; k_whole; intro q' h' F' N' l1; (try k_lt l1); revert q' h' F' N' l1; intros) | ((with_reducible show wpAny _ _ (getMethod (Value.ref _) (PySem.Str.ofString "__len__") _) _ _ _); refine sup_len (by k_asm) (by k_asm) (by k_asm) (by k_mem) (by k_mem) ?_; k_whole; intro q' h' F' N' l1; (try k_lt l1); revert q' h' F' N' l1; intros) | ((with_reducible show wpAny _ _ (getMethod (Value.ref _) (PySem.Str.ofString "__init__") _) _ _ _); refine sup_init (by k_asm) (by k_asm) (by k_asm) (by k_mem) (by k_mem) ?_; k_whole; intro q' h' F' N' l1; (try k_lt l1); revert q' h' F' N' l1; intros)))
  k_with "call builtin:list.append" => (k_here; k_dflt (refine append_acc (by k_asm) (by k_asm) (by k_asm) (by k_updF) (by first | assumption | omega) ?_; k_whole; intro n' h' F' N'; (try dsimp only at N'); revert n' h' F' N'; intros))
  k_with "callWith ref" => (k_here; k_dflt ((with_reducible show wpAny _ _ (callWith _ (Value.ref _) [] (backTo _ (starEach [] _)) []) _ _ _); refine bm_callWith (by k_asm) (by k_mem) (by first | exact .inl rfl | exact .inr rfl) ?_; k_whole; (try dsimp only [List.nil_append])))
  k_with "call ref" => (k_here; k_dflt (first | (refine bm_call_len (by k_asm) (by k_asm) (by k_asm) (by k_mem) (by k_mem) ?_; k_whole) | (refine bm_call_init (by k_asm) (by k_asm) (by k_asm) (by k_mem) (by k_updF) ?_; k_whole; intro n' h' F' N'; (try dsimp only at N'); revert n' h' F' N'; intros) | (refine bm_call_pop (by k_asm) (by k_asm) (by k_asm) (by k_mem) (by k_updF) (by first | assumption | omega) (by assumption) ?_; k_whole; intro n' h' F' N'; (try dsimp only at N'); revert n' h' F' N'; intros)))
  k_with "wpAt" => ((fail_if_success ks_step "execs cons"); dsimp only; ks_step "execs cons"; refine ks_wpAt_execs_cons ?_)
  k_with "wpAt" => (ks_step "eval Call"; k_dflt (refine ks_wpAt_MethodCall ?_))
  k_with "k_ne" => (first | exact ne_mem1 (by with_reducible assumption) (by with_reducible assumption) | exact ne_mem1 (And.right (by with_reducible assumption)) (by with_reducible assumption) | exact ne_mem1 (And.right (And.right (by with_reducible assumption))) (by with_reducible assumption) | exact ne_mem1 (And.right (And.right (And.right (by with_reducible assumption)))) (by with_reducible assumption) | exact ne_mem1 (And.right (And.right (And.right (And.right (by with_reducible assumption))))) (by with_reducible assumption) | exact ne_mem1 (And.right (And.right (And.right (And.right (And.right (by with_reducible assumption)))))) (by with_reducible assumption) | exact ne_mem1 (And.right (And.right (And.right (And.right (And.right (And.right (by with_reducible assumption))))))) (by with_reducible assumption))
  k_with "subscriptTail" => (k_here; (with_reducible show wpAny _ _ (subscriptTail _ _ (Value.ref _) (Value.int _ _)) _ _ _); k_dflt (refine acc_itemTail (by k_asm) (by k_asm) (by k_asm) (by k_mem) (by first | assumption | omega) (by omega) (by assumption) (by with_unfolding_all rfl) ?_; k_whole))
  k_with "subscriptTail" => (k_here; (with_reducible show wpAny _ _ (subscriptTail _ _ (Value.ref _) (Value.ref _)) _ _ _); k_dflt (refine acc_sliceTail (by k_asm) (by k_asm) (by k_asm) (by k_mem) (by first | exact IsPart.none | exact IsPart.int _ _) (by first | exact IsPart.none | exact IsPart.int _ _) (by first | assumption | omega) (by with_unfolding_all rfl) ?_; k_whole; intro l' h' F' N' l1; (try k_lt l1); revert l' h' F' N' l1; intros))
  k_with "setItem ref" => (k_here; k_dflt (refine acc_sliceSet (by k_asm) (by k_asm) (by k_asm) (by k_updF) (by first | exact IsPart.none | exact IsPart.int _ _) (by first | exact IsPart.none | exact IsPart.int _ _) (by k_mem) (by first | assumption | omega) (by first | assumption | decide | (simp; done) | omega) ?_; k_whole; intro n' h' F' N'; (try dsimp only at N'); revert n' h' F' N'; intros))
  k_with "setAttr ref" => (k_here; k_dflt (refine set_acc (by k_asm) (by k_asm) (by k_asm) (by k_mem) (by k_is) (by k_is) (by k_get) (by k_put) (by k_upd) (by simp) ?_; k_whole; intro h' F' N'; (try dsimp only at N'); revert h' F' N'; intros))
  k_with "k_mem" => (first | with_reducible assumption | with_reducible exact List.Mem.head _ | with_reducible exact List.Mem.tail _ (by assumption) | with_reducible exact List.Mem.tail _ (List.Mem.tail _ (by assumption)) | with_reducible exact List.Mem.tail _ (List.Mem.tail _ (List.Mem.tail _ (by assumption))))
  k_with "call ref" => (k_here; k_dflt ((with_reducible show wpAny _ _ (call (Value.ref 56) _ _) _ _ _); (apply newline_E; walk_at "z8"; (case M => assumption); (case he => omega); k_whole; intro s₁ news₁ lines₁ F' N' A' M' KP' G' os₁ hl₁; subst hl₁; ((refine AccL.elim2 A' ?_; intros)); ((refine FmtL.elim M' ?_; intros)); revert s₁ news₁ F' N' A' M' KP' G' os₁; intros)))
  k_with "call builtin:str.join" => (k_here; k_dflt (refine join_P (by k_asm) (by assumption) (by assumption) (by (first | assumption | (simp only [*]; assumption))) ?_; intros))
  k_with "execs cons" => (first | (k_here; k_gentoks) | ((try (rename Flow → Shared → Prop => qq; clear qq)); (try (rename Value → Shared → Prop => qq; clear qq)); refine wpAny_execs_cons ?_; (try dsimp only); k_fold))
  trivial
theorem str_P : ∀ {w : World} {loose : List Str} {mean : ExcName → Option Value} {mg mb : Str → Option Value} {dp un : Nat} {gd : Option (List Code)} {cn : Str} {cs : Scope} {a : Addr} {ccd : Value} {cl : List (Str × Addr)} {outer : List Env} {A₀ : Around} {base h₀ : Heap} {L : Addr} {m : Str → Option Value} {s : Shared} {Q E : Value → Shared → Prop} {news : List (Addr × Obj)} {ca cd : Nat} {its : Array Value} {pa fd ln : Addr} {mx : Int} {lines : List Str} {x : Str} {kx : Tok}
  (B : Below A₀ base outer h₀) (F : Fr h₀ L s.heap m) (X : (fr.heap_1 w.params).In h₀) (N : News h₀ L s.heap news) (T : Top topProg loose mean mg mb h₀) (hk : cs.kind = .function) (hdp : dp + 30 < recursionLimit) (hun : un + 360 < cLine) (A : AccL news ca cd its (Str.ofString "") (Str.ofString "")) (M : FmtL news pa fd ca ln mx lines) (G : AllBare s.gens) (he : its.size = 0) (hok : (lines.map (·.length)).sum + lines.length * 64 ≤ 16777216) (hsep : x.length ≤ 64) (hret : ∀ t₁ (s₁ : Shared) (news₁ : List (Addr × Obj)), Fr h₀ L s₁.heap m → News h₀ L s₁.heap news₁ → (news₁.map (·.1)).Nodup → KeepP ca cd ln news news₁ → (∃ ps, (140, tableObj ps) ∈ news₁ ∧ TabOk pos1 ps) → (∃ ps, (147, tableObj ps) ∈ news₁ ∧ TabOk pos2 ps) → AllBare s₁.gens → s₁.os = s.os → Q (.str (Txt.join x lines) t₁) s₁),
  wpAny (model PySem.Challenge.rw_wu0100_01.row.prog w) (ktrTop dp un gd cn cs L a ccd cl outer) (call (.ref 42) [.ref pa, .str x kx]) Q E s := by
  k_fill
  intro w loose mean mg mb dp un gd cn cs a ccd cl outer A₀ base h₀ L m s Q E news ca cd its pa fd ln mx lines x kx B F X N T hk hdp hun A M G he hok hsep hret
  refine wpAny_call ?_
  k_dflt (refine' code_def ?k1 ?k2 ?k3 ?k4 ?k5 ?kA ?kF ?kK ?k6 ?k7 ?k8 ?k9 ?kB ?_ ?c2 ?c3 ?c4 ?c5; (case kA => exact rfl); (case kF => exact rfl); (case kK => first | exact rfl | assumption); (case k1 => k_asm); (case k2 => k_asm); (case k3 => k_asm); (case k4 => k_asm); (case k5 => k_asm); (case k6 => k_is); (case k7 => k_is); (case k8 => ktr_room); (case k9 => first | exact BindsTo.of_eq rfl | exact binds_K (by k_in) rfl (by k_is) rfl rfl rfl); (case c5 => decide); (case kB => exact locs rfl); (case c2 => exact rfl); (case c3 => exact rfl); (case c4 => exact rfl); k_whole; intro g' L' h' FG' F' N' B' X' T'; (try dsimp only); (try k_lift B'); (try k_fold))
  (refine AccL.elim A ?_; intro nd n ha h1 x1 x2 hcd ps1 t1 k1 ps2 t2 k2 W hz hp hq)
  (refine FmtL.elim M ?_; intro hpa a1 a2 a3 a4 a5 a6 y1 y2 y3 y4 y5 y6 u1 u2 u3 u4  hfd vs c hln hS hzl)
  k_steps
  all_goals (obtain ⟨nd9, -, -, q1, q2, -, -, -, -⟩ := (by assumption : AccL _ ca cd _ _ _); refine' hret _ _ _ ?eF ?eN ?e1 ?eK ?e2 ?e3 ?eG ?eO; (case eF => k_asm); (case e1 => exact nd9); (case eN => k_asm); (case eK => assumption); (case e2 => exact q1); (case e3 => exact q2); (case eG => assumption); (case eO => simp only [*]))
end
section
open PySem PySem.Spec PySem.Calls PySem.W PyProof.Rows Builtin Builtin.ObjectAttr
set_option maxRecDepth 100000
set_option maxHeartbeats 4000000
theorem kfacts5 : ∀ w : World, PySem.Challenge.rw_wu0100_01 = PySem.Challenge.rw_wu0100_01 ∧
    (∃ cd sl, (fr.heap_1 w.params).lookup 178 = some ⟨.type "type", none, .cls cd, sl⟩ ∧ cd.abstract = false ∧ cd.hasDel = false ∧ cd.mro = [.ref 178, .type "list", .type "object"] ∧ (sl.toList[4]?).join = some (.builtin "list.__new__")) ∧
    specialIn (fr.heap_1 w.params) (.ref 178) "__call__" = some (some (.builtin "type.__call__")) ∧ instIn (fr.heap_1 w.params) (.ref 178) (.type "type") = some true ∧
    findIn (fr.heap_1 w.params) (.ref 178) "__init__" = some (some (.ref 115)) ∧ typeIn (fr.heap_1 w.params) (.ref 115) = some (.type "function") ∧ subIn (fr.heap_1 w.params) (.ref 178) (.ref 178) = some true := by
  k_fill
  intro w
  refine ⟨rfl, ⟨_, _, by k_is, rfl, rfl, rfl, rfl⟩, by k_is, by k_is, by k_is, by k_is, by k_is⟩
structure MakesL (M : Model) (h : Heap) : Prop where
  obj : ∃ cd sl, h.get? 178 = some ⟨.type "type", none, .cls cd, sl⟩ ∧ cd.abstract = false ∧ cd.hasDel = false ∧ cd.mro = [.ref 178, .type "list", .type "object"]
  made : Looks M h (Bind.madeBy (.ref 178)) (some "list.__new__")
  base : Looks M h (Bind.staticBase (.ref 178)) (.ref 178)
  self : Looks M h (isSubtype (.ref 178) (.ref 178)) true
  top : Looks M h (isSubtype (.ref 178) (.type "list")) true
  call : Looks M h (specialOf (.ref 178) "__call__") (some (.builtin "type.__call__"))
  typ : Looks M h (isInstance (.ref 178) (.type "type")) true
  init : Looks M h (typeLookup (.ref 178) "__init__") (some (.ref 115))
  bind : ∀ self, Looks M h (bindSpecial (.ref 115) self) (.ref 115, [self])
theorem makesL {w : World} {h : Heap} (X : (fr.heap_1 w.params).In h) : MakesL (model PG w) h := by
  obtain ⟨-, ⟨cd, sl, ho, e1, e2, e3, e4⟩, c1, c2, c3, c4, c5⟩ := kfacts5 w
  have hC := X _ _ ho
  have hm : Looks (model PG w) h (mroOf (.ref 178)) [.ref 178, .type "list", .type "object"] := e3 ▸ (((Looks.ld (part := none) hC).andThen .now).andThen .now)
  have made : Looks (model PG w) h (Bind.madeBy (.ref 178)) (some "list.__new__") := by
    intro A Q E s k q
    unfold Bind.madeBy
    refine wpAny_bind (hm A _ E s k ?_)
    rw [List.forIn_cons]
    refine wpAny_bind (wpAny_bind (wpAny_bind (wpAny_bind (wpAny_loadPart (k _ _ hC) (wpAny_pure ?_)))))
    try dsimp only
    rw [← Array.getElem?_toList, e4]
    exact wpAny_pure (wpAny_pure (wpAny_pure q))
  refine ⟨⟨cd, sl, hC, e1, e2, e3⟩, made, ?_, looks_subIn X c5, looks_subIn X (acc_sub w), looks_specialIn X c1, looks_instIn X c2, looks_findIn X c3, fun self => bind_fn X self c4⟩
  intro A Q E s k q
  unfold Bind.staticBase
  refine wpAny_bind (hm A _ E s k ?_)
  rw [List.forIn_cons]
  exact wpAny_bind (wpAny_bind (wpAny_bind (made A _ E s k (wpAny_pure (wpAny_pure (wpAny_pure q))))))
section
variable {w : World} {A : Around} {R : Result → Shared → Prop} {h : Heap} {g : Array GenState} {d : Drawn} {t : Nat} {os : OsState}
theorem newArgs (rest : List Value) : argsOk "list.__new__" ⟨.ref 178 :: rest, []⟩ := by unfold argsOk; kernel_rfl
set_option maxHeartbeats 400000 in
theorem new_acc {rest : List Value} (Y : MakesL (model PG w) h)
    (hq : R (.ok (.ret (.ref (h.objs.size + 1)))) ⟨(h.push emptyDict).push (accObj h.objs.size #[] 0), g, d, t, os⟩) :
    codeAny (model PG w) A (.call (.builtin "list.__new__") ⟨.ref 178 :: rest, []⟩) R ⟨h, g, d, t, os⟩ := by
  obtain ⟨⟨cd, sl, hC, e1, e2, e3⟩, made, base, self, top, call, typ, init, bind⟩ := Y
  have kind : builtinKind "list.__new__" = some .builtinFn := by decide +kernel
  have split : splitId "list.__new__" = some ("list", "__new__") := by decide +kernel
  refine codeAny_of_tree ?_
  show wpAny _ A.in1 (do checkBuiltinCall "list.__new__" ⟨.ref 178 :: rest, []⟩; again (.builtin "list.__new__" ⟨.ref 178 :: rest, []⟩)) _ _ _
  refine wpAny_bind ?_
  simp only [checkBuiltinCall, kind, split]
  have here : Looks (model PG w) h (Bind.madeHere "list.__new__" (.ref 178)) () := base.andThen (made.andThen (Looks.of_pure (by simp only [Option.map_some, bne_self_eq_false, Bool.false_eq_true, if_false])))
  repeat (first | simp only [bne_self_eq_false, beq_self_eq_true, if_true, Bool.not_true, Bool.false_eq_true, if_false] | lk)
  refine ⟨plainId_quiet PySem.F.plain_list_new _, codeAny_builtin_stack PySem.F.entry_list_new rfl fun p st => ?_⟩
  rw [Around.under_plainId PySem.F.plain_list_new _]
  have hown := owner_list_new
  simp only [hown]
  repeat (first | simp only [beq_self_eq_true, if_true, Bool.not_true, Bool.false_eq_true, if_false] | lk)
  refine wpAny_load (Heap.get?_push_of_some _ (Heap.get?_push_of_some _ hC)) (wpAny_pure ?_)
  rw [e2]
  refine wpAny_pure (wpAny_pure ?_)
  show R _ _
  rw [Heap.size_push]
  exact hq
theorem make_acc {rest : List Value} (Y : MakesL (model PG w) h)
    (hq : codeAny (model PG w) (A.under (.builtin "type.__call__" ⟨.ref 178 :: rest, []⟩)) (.call (.ref 115) ⟨.ref (h.objs.size + 1) :: rest, []⟩) (W.InitBack (h.objs.size + 1) R) ⟨(h.push emptyDict).push (accObj h.objs.size #[] 0), g, d, t, os⟩) :
    codeAny (model PG w) A (.call (.ref 178) ⟨rest, []⟩) R ⟨h, g, d, t, os⟩ := by
  have Y' := Y
  obtain ⟨⟨cd, sl, hC, e1, e2, e3⟩, made, base, self, top, call, typ, init, bind⟩ := Y
  refine codeAny_of_tree ?_
  show wpAny _ _ (callAny (.ref 178) _) _ _ _
  refine nd_load hC ?_
  show wpAny _ _ (callAny.viaDunder (.ref 178) _) _ _ _
  unfold callAny.viaDunder
  refine wpAny_bind (call.at ?_)
  try dsimp only
  rw [tc_bind]
  refine wpAny_bind (wpAny_pure (wpAny_bind (wpAny_pure ?_)))
  refine wpAny_pure (a := Fin.again (.call (.builtin "type.__call__") ⟨.ref 178 :: rest, []⟩)) (And.intro rfl ?_)
  refine codeAny_call_builtin_at (Code.quiet_builtin _ (by decide +kernel)) entry_typeCall (check_slot tc_kind tc_split typ (tc_args _ _ _) ?_)
  unfold Builtin.«type.__call__»
  have hm : Looks (model PG w) h (mroOf (.ref 178)) [.ref 178, .type "list", .type "object"] := e3 ▸ (((Looks.ld (part := none) hC).andThen .now).andThen .now)
  have e4 : cd.mro.isEmpty = false := by rw [e3]; rfl
  repeat (first | simp only [e4, Bool.false_eq_true, if_false] | with_reducible refine wpAny_call ?_ | lk)
  refine new_acc Y' ?_
  have k : ∀ b o, h.get? b = some o → ((h.push emptyDict).push (accObj h.objs.size #[] 0)).get? b = some o := fun b o e => Heap.get?_push_of_some _ (Heap.get?_push_of_some _ e)
  have hx : ((h.push emptyDict).push (accObj h.objs.size #[] 0)).get? (h.objs.size + 1) = some (accObj h.objs.size #[] 0) := by heap_get
  have t1 : Looks (model PG w) ((h.push emptyDict).push (accObj h.objs.size #[] 0)) (typeOf (.ref (h.objs.size + 1))) (.ref 178) := (Looks.ld hx).andThen .now
  have s1 := self.keeps k
  have i1 := init.keeps k
  have b1 := (bind (.ref (h.objs.size + 1))).keeps k
  unfold isInstance callSpecial? specialOf
  repeat (first | with_reducible refine wpAny_call ?_ | lk)
  refine codeAny_mono hq fun r s' z => ?_
  rcases r with e | (v | _ | _ | _) <;> first | exact z | exact z.elim | skip
  obtain ⟨rfl, z⟩ := z
  exact wpAny_pure (wpAny_pure z)
end
end
section
open PySem PySem.Spec PySem.Calls PySem.W PyProof.Rows
set_option maxRecDepth 100000
set_option maxHeartbeats 0
theorem rows_S12_1 : True := by
  k_with_none
  w_top off
  k_with "k_mem" => (assumption)
  k_with "k_ne" => (first | exact ne_mem1 (by with_reducible assumption) (by with_reducible assumption) | exact ne_mem2 (by with_reducible assumption) (by with_reducible assumption))
  k_with "execs cons" => (first | (k_here; k_gentoks) | ((try (rename Flow → Shared → Prop => qq; clear qq)); (try (rename Value → Shared → Prop => qq; clear qq)); refine wpAny_execs_cons ?_; (try dsimp only); k_fold))
  trivial

theorem rows_S12_2 : True := by
  k_with "k_updF" => (with_reducible assumption)
  k_with "k_inst" => (refine accI_news (by k_asm) (by k_mem) (by k_mem))
  k_with "getAttr ref" => (k_here; k_dflt (refine get_acc (by k_asm) (by k_asm) (by k_asm) (by k_mem) (by k_mem) (by k_is) (by k_is) (by k_is) (by k_get) (by k_handed) ?_; k_whole))
  k_with "getMethod ref" => (k_here; k_dflt (first | ((with_reducible show wpAny _ _ (getMethod (Value.ref _) (PySem.Str.ofString "append") _) _ _ _); refine method_acc_app (by k_asm) (by k_asm) (by k_asm) (by k_mem) (by k_mem) (by k_get) ?_; k_whole) | (refine method_acc_fn (by k_asm) (by k_asm) (by k_asm) (by k_mem) (by k_mem) (by k_is) (by k_is) (by k_get) ?_; k_whole) | ((with_reducible show wpAny _ _ (getMethod (Value.ref _) (PySem.Str.ofString "pop") _) _ _ _); refine sup_pop (by k_asm) (by k_asm) (by k_asm) (by k_mem) (by k_mem) ?_; k_whole; intro q' h' F' N' l1; (try k_lt l1); revert q' h' F' N' l1; intros) | ((with_reducible show wpAny _ _ (getMethod (Value.ref _) (PySem.Str.ofString "__len__") _) _ _ _); refine sup_len (by k_asm) (by k_asm) (by k_asm) (by k_mem) (by k_mem) ?_; k_whole; intro q' h' F' N' l1; (try k_lt l1); revert q' h' F' N' l1; intros) | ((with_reducible show wpAny _ _ (getMethod (Value.ref _) (PySem.Str.ofString "__init__") _) _ _ _); refine sup_init (by k_asm) (by k_asm) (by k_asm) (by k_mem) (by k_mem) ?_; k_whole; intro q' h' F' N' l1; (try k_lt l1); revert q' h' F' N' l1; intros)))
  k_with "call builtin:list.append" => (k_here; k_dflt (refine append_acc (by k_asm) (by k_asm) (by k_asm) (by k_updF) (by first | assumption | omega) ?_; k_whole; intro n' h' F' N'; (try dsimp only at N'); revert n' h' F' N'; intros))
  k_with "callWith ref" => (k_here; k_dflt ((with_reducible show wpAny _ _ (callWith _ (Value.ref _) [] (backTo _ (starEach [] _)) []) _ _ _); refine bm_callWith (by k_asm) (by k_mem) (by first | exact .inl rfl | exact .inr rfl) ?_; k_whole; (try dsimp only [List.nil_append])))
  k_with "call ref" => (k_here; k_dflt (first | (refine bm_call_len (by k_asm) (by k_asm) (by k_asm) (by k_mem) (by k_mem) ?_; k_whole) | (refine bm_call_init (by k_asm) (by k_asm) (by k_asm) (by k_mem) (by k_updF) ?_; k_whole; intro n' h' F' N'; (try dsimp only at N'); revert n' h' F' N'; intros) | (refine bm_call_pop (by k_asm) (by k_asm) (by k_asm) (by k_mem) (by k_updF) (by first | assumption | omega) (by assumption) ?_; k_whole; intro n' h' F' N'; (try dsimp only at N'); revert n' h' F' N'; intros)))
  k_with "wpAt" => ((fail_if_success ks_step "execs cons"); dsimp only; ks_step "execs cons"; refine ks_wpAt_execs_cons ?_)
  k_with "wpAt" => (ks_step "eval Call"; k_dflt (refine ks_wpAt_MethodCall ?_))
  k_with "k_ne" => (first | exact ne_mem1 (by with_reducible assumption) (by with_reducible assumption) | exact ne_mem1 (And.right (by with_reducible assumption)) (by with_reducible assumption) | exact ne_mem1 (And.right (And.right (by with_reducible assumption))) (by with_reducible assumption) | exact ne_mem1 (And.right (And.right (And.right (by with_reducible assumption)))) (by with_reducible assumption) | exact ne_mem1 (And.right (And.right (And.right (And.right (by with_reducible assumption))))) (by with_reducible assumption) | exact ne_mem1 (And.right (And.right (And.right (And.right (And.right (by with_reducible assumption)))))) (by with_reducible assumption) | exact ne_mem1 (And.right (And.right (And.right (And.right (And.right (And.right (by with_reducible assumption))))))) (by with_reducible assumption))
  k_with "subscriptTail" => (k_here; (with_reducible show wpAny _ _ (subscriptTail _ _ (Value.ref _) (Value.int _ _)) _ _ _); k_dflt (refine acc_itemTail (by k_asm) (by k_asm) (by k_asm) (by k_mem) (by first | assumption | omega) (by omega) (by assumption) (by with_unfolding_all rfl) ?_; k_whole))
  k_with "subscriptTail" => (k_here; (with_reducible show wpAny _ _ (subscriptTail _ _ (Value.ref _) (Value.ref _)) _ _ _); k_dflt (refine acc_sliceTail (by k_asm) (by k_asm) (by k_asm) (by k_mem) (by first | exact IsPart.none | exact IsPart.int _ _) (by first | exact IsPart.none | exact IsPart.int _ _) (by first | assumption | omega) (by with_unfolding_all rfl) ?_; k_whole; intro l' h' F' N' l1; (try k_lt l1); revert l' h' F' N' l1; intros))
  k_with "setItem ref" => (k_here; k_dflt (refine acc_sliceSet (by k_asm) (by k_asm) (by k_asm) (by k_updF) (by first | exact IsPart.none | exact IsPart.int _ _) (by first | exact IsPart.none | exact IsPart.int _ _) (by k_mem) (by first | assumption | omega) (by first | assumption | decide | (simp; done) | omega) ?_; k_whole; intro n' h' F' N'; (try dsimp only at N'); revert n' h' F' N'; intros))
  k_with "setAttr ref" => (k_here; k_dflt (refine set_acc (by k_asm) (by k_asm) (by k_asm) (by k_mem) (by k_is) (by k_is) (by k_get) (by k_put) (by k_upd) (by simp) ?_; k_whole; intro h' F' N'; (try dsimp only at N'); revert h' F' N'; intros))
  k_with "execs cons" => (first | (k_here; k_gentoks) | ((try (rename Flow → Shared → Prop => qq; clear qq)); (try (rename Value → Shared → Prop => qq; clear qq)); refine wpAny_execs_cons ?_; (try dsimp only); k_fold))
  trivial
theorem initC : ∀ {w : World} {loose : List Str} {mean : ExcName → Option Value} {mg mb : Str → Option Value} {dp un : Nat} {gd : Option (List Code)} {cn : Str} {cs : Scope} {a : Addr} {ccd : Value} {cl : List (Str × Addr)} {outer : List Env} {A₀ : Around} {base h₀ : Heap} {L : Addr} {m : Str → Option Value} {s : Shared} {Q E : Value → Shared → Prop} {news : List (Addr × Obj)} {g : Obj → List (Addr × Obj)} {g₂ : Obj → Obj → List (Addr × Obj)} {ca cd : Nat} {n : Nat} {kt : Tok}
  (B : Below A₀ base outer h₀) (F : Fr h₀ L s.heap m) (X : (fr.heap_1 w.params).In h₀) (N : News h₀ L s.heap news) (T : Top topProg loose mean mg mb h₀) (hk : cs.kind = .function) (hdp : dp + 4 < recursionLimit) (hun : un + 60 < cLine) (U : UpdF cd (dictOf [] 0) news g) (U2 : ∀ o₁, UpdF ca (accObj cd #[] n) (g o₁) (g₂ o₁)) (ha : (ca, accObj cd #[] n) ∈ news) (hcd : (cd, dictOf [] 0) ∈ news) (hne : ca ≠ cd) (hret : ∀ n₁ h1 x1 h₁ tk₁, Fr h₀ L h₁ m → News h₀ L h₁ (g₂ (iniObj h1 x1 kt) (accObj cd #[] n₁)) → Q .none { s with heap := h₁, toks := tk₁ }),
  codeAny (model PySem.Challenge.rw_wu0100_01.row.prog w) (ktrTop dp un gd cn cs L a ccd cl outer) (.call (.ref 115) ⟨[.ref ca, .int 0 kt], []⟩) (fun r s' => match r with | .ok (.ret v) => Q v s' | .ok _ => False | .error e => E e s') s := by
  k_fill
  intro w loose mean mg mb dp un gd cn cs a ccd cl outer A₀ base h₀ L m s Q E news g g₂ ca cd n kt B F X N T hk hdp hun U U2 ha hcd hne hret
  k_dflt (refine' ks_code_super ?k1 ?k2 ?k3 ?k4 ?k5 ?kA ?kF ?kK ?k6 ?k7 ?k8 ?k9 ?kB ?_ ?c1 ?c2 ?c3 ?c4; (case kA => exact rfl); (case kF => exact rfl); (case kK => first | exact rfl | assumption); (case k1 => k_asm); (case k2 => k_asm); (case k3 => k_asm); (case k4 => k_asm); (case k5 => k_asm); (case k6 => k_is); (case k7 => k_is); (case k8 => ktr_room); (case k9 => first | exact BindsTo.of_eq rfl | exact binds_K (by k_in) rfl (by k_is) rfl rfl rfl); (case kB => exact locs rfl); (case c1 => decide); (case c2 => exact rfl); (case c3 => exact rfl); (case c4 => exact rfl); intro g' L' h' FG' F' N' B' X' T' l1; (try dsimp only); (try k_lift B'))
  k_steps
  k_dflt (refine' set_acc ?k1 ?k2 ?k3 ?k4 ?k5 ?k6 ?k7 ?k8 ?k9 ?k10 ?_; (case k1 => k_asm); (case k2 => k_asm); (case k3 => k_asm); (case k4 => exact ha); (case k5 => k_is); (case k6 => k_is); (case k9 => exact updF_upd U); (case k7 => k_get); (case k8 => k_put); (case k10 => simp); k_whole)
  intro h9 F9 N9
  have ha9 := (fun {h : Heap} {o' : Obj} (_ : News g' L' h (g o')) => updF_keep (o' := o') U ha hne) N9
  have hc9 := (fun {h : Heap} {o' : Obj} (_ : News g' L' h (g o')) => updF_mem (o' := o') U) N9
  have U9 := (fun {h : Heap} {o' : Obj} (_ : News g' L' h (g o')) => U2 o') N9
  try dsimp only
  refine ks_wpAt_execs_cons ?_
  refine ks_wpAt_Expr_any ?_
  k_dflt (refine ks_wpAt_MethodCall ?_)
  k_steps
  all_goals exact hret _ _ _ _ _ (by k_asm) (cb_drop (by assumption) (by intro p hp; repeat (first | exact hp | apply List.Mem.tail)))
end
section
open PySem PySem.Spec PySem.Calls PySem.W PyProof.Rows
set_option maxRecDepth 100000
set_option maxHeartbeats 0
theorem under_tc (dp un : Nat) (gd : Option (List Code)) (cn : Str) (cs : Scope) (L a : Addr) (ccd : Value) (cl : List (Str × Addr)) (outer : List Env) (rest : List Value) : (ktrTop dp un gd cn cs L a ccd cl outer).under (.builtin "type.__call__" ⟨.ref 178 :: rest, []⟩) = ktrTop (dp + 1) (un + 1) (pushGuards [] gd) cn cs L a ccd cl outer := rfl
theorem makeA : ∀ {w : World} {loose : List Str} {mean : ExcName → Option Value} {mg mb : Str → Option Value} {dp un : Nat} {gd : Option (List Code)} {cn : Str} {cs : Scope} {a : Addr} {ccd : Value} {cl : List (Str × Addr)} {outer : List Env} {A₀ : Around} {base h₀ : Heap} {L : Addr} {m : Str → Option Value} {s : Shared} {Q E : Value → Shared → Prop} {news : List (Addr × Obj)} {kt : Tok}
  (B : Below A₀ base outer h₀) (F : Fr h₀ L s.heap m) (X : (fr.heap_1 w.params).In h₀) (N : News h₀ L s.heap news) (T : Top topProg loose mean mg mb h₀) (hk : cs.kind = .function) (hdp : dp + 6 < recursionLimit) (hun : un + 80 < cLine) (hret : ∀ ca cd n h1 x1 h₁ tk₁, Fr h₀ L h₁ m → News h₀ L h₁ ((ca, accObj cd #[] n) :: (cd, iniObj h1 x1 kt) :: news) → (∀ p ∈ news, p.1 < cd) → cd < ca → Q (.ref ca) { s with heap := h₁, toks := tk₁ }),
  wpAny (model PySem.Challenge.rw_wu0100_01.row.prog w) (ktrTop dp un gd cn cs L a ccd cl outer) (call (.ref 178) [.int 0 kt]) Q E s := by
  intro w loose mean mg mb dp un gd cn cs a ccd cl outer A₀ base h₀ L m s Q E news kt B F X N T hk hdp hun hret
  obtain ⟨hh, gg, dd, tt, os⟩ := s
  refine wpAny_call (make_acc (makesL (X.keeps F.keep)) ?_)
  rw [under_tc]
  have N1 := (N.push F emptyDict).push (F.push _) (accObj hh.objs.size #[] 0)
  have F1 := (F.push emptyDict).push (accObj hh.objs.size #[] 0)
  rw [Heap.size_push] at N1
  have hlt : ∀ p ∈ news, @LT.lt Nat _ p.1 hh.objs.size := fun p hp => Heap.lt_size (N p hp).1
  have hne : hh.objs.size + 1 ≠ hh.objs.size := Nat.succ_ne_self _
  have hU2 : ∀ o₁, UpdF (hh.objs.size + 1) (accObj hh.objs.size #[] 0) ((hh.objs.size + 1, accObj hh.objs.size #[] 0) :: (hh.objs.size, o₁) :: news) (fun o' => (hh.objs.size + 1, o') :: (hh.objs.size, o₁) :: news) := fun o₁ => .head fun p hp => by
    rcases List.mem_cons.mp hp with rfl | hp
    · exact Ne.symm hne
    · exact Nat.ne_of_lt (Nat.lt_succ_of_lt (hlt p hp))
  have hU : UpdF hh.objs.size (dictOf [] 0) ((hh.objs.size + 1, accObj hh.objs.size #[] 0) :: (hh.objs.size, dictOf [] 0) :: news) (fun o' => (hh.objs.size + 1, accObj hh.objs.size #[] 0) :: (hh.objs.size, o') :: news) := .tail hne (.head fun p hp => Nat.ne_of_lt (hlt p hp))
  refine codeAny_mono (initC (dp := dp + 1) (un := un + 1) (Q := fun v s' => v = .none ∧ Q (.ref (hh.objs.size + 1)) s') (E := E) B F1 X N1 T hk (by omega) (by omega) hU hU2 (.head _) (.tail _ (.head _)) hne fun n₁ h1 x1 h₁ tk₁ F₁ N₁ => ⟨rfl, hret _ _ n₁ h1 x1 h₁ tk₁ F₁ N₁ hlt (Nat.lt_succ_self _)⟩) fun r s' z => ?_
  rcases r with e | (v | _ | _ | _) <;> first | exact z | exact z.elim | skip
end
section
open PySem PySem.Spec PySem.Calls PySem.W PyProof.Rows
set_option maxRecDepth 100000
set_option maxHeartbeats 0
theorem under_C (dp un : Nat) (gd : Option (List Code)) (cn : Str) (cs : Scope) (L a : Addr) (ccd : Value) (cl : List (Str × Addr)) (outer : List Env) (C : Addr) (rest : List Value) : (ktrTop dp un gd cn cs L a ccd cl outer).under (.builtin "type.__call__" ⟨.ref C :: rest, []⟩) = ktrTop (dp + 1) (un + 1) (pushGuards [] gd) cn cs L a ccd cl outer := rfl

theorem rows_S14_1 : True := by
  k_with_none
  w_top off
  k_with "z8" => ((try (case A => assumption)); (case B => k_asm); (case F => k_asm); (case X => k_asm); (case N => first | k_asm | exact cb_drop (by k_asm) (by intro p hp; repeat (first | exact hp | apply List.Mem.tail))); (case T => k_asm); (case hk => first | exact rfl | assumption); (case hdp => ktr_room); (case hun => ktr_units); (try (case G => assumption)))
  k_with "k_mem" => (assumption)
  k_with "k_ne" => (first | exact ne_mem1 (by with_reducible assumption) (by with_reducible assumption) | exact ne_mem2 (by with_reducible assumption) (by with_reducible assumption))
  k_with "execs cons" => (first | (k_here; k_gentoks) | ((try (rename Flow → Shared → Prop => qq; clear qq)); (try (rename Value → Shared → Prop => qq; clear qq)); refine wpAny_execs_cons ?_; (try dsimp only); k_fold))
  trivial

theorem rows_S14_2 : True := by
  k_with "k_updF" => (with_reducible assumption)
  k_with "k_inst" => (refine accI_news (by k_asm) (by k_mem) (by k_mem))
  k_with "getAttr ref" => (k_here; k_dflt (refine get_acc (by k_asm) (by k_asm) (by k_asm) (by k_mem) (by k_mem) (by k_is) (by k_is) (by k_is) (by k_get) (by k_handed) ?_; k_whole))
  k_with "getMethod ref" => (k_here; k_dflt (first | ((with_reducible show wpAny _ _ (getMethod (Value.ref _) (PySem.Str.ofString "append") _) _ _ _); refine method_acc_app (by k_asm) (by k_asm) (by k_asm) (by k_mem) (by k_mem) (by k_get) ?_; k_whole) | (refine method_acc_fn (by k_asm) (by k_asm) (by k_asm) (by k_mem) (by k_mem) (by k_is) (by k_is) (by k_get) ?_; k_whole) | ((with_reducible show wpAny _ _ (getMethod (Value.ref _) (PySem.Str.ofString "pop") _) _ _ _); refine sup_pop (by k_asm) (by k_asm) (by k_asm) (by k_mem) (by k_mem) ?_; k_whole; intro q' h' F' N' l1; (try k_lt l1); revert q' h' F' N' l1; intros) | ((with_reducible show wpAny _ _ (getMethod (Value.ref _) (PySem.Str.ofString "__len__") _) _ _ _); refine sup_len (by k_asm) (by k_asm) (by k_asm) (by k_mem) (by k_mem) ?_; k_whole; intro q' h' F' N' l1; (try k_lt l1); revert q' h' F' N' l1; intros) | ((with_reducible show wpAny _ _ (getMethod (Value.ref _) (PySem.Str.ofString "__init__") _) _ _ _); refine sup_init (by k_asm) (by k_asm) (by k_asm) (by k_mem) (by k_mem) ?_; k_whole; intro q' h' F' N' l1; (try k_lt l1); revert q' h' F' N' l1; intros)))
  k_with "call builtin:list.append" => (k_here; k_dflt (refine append_acc (by k_asm) (by k_asm) (by k_asm) (by k_updF) (by first | assumption | omega) ?_; k_whole; intro n' h' F' N'; (try dsimp only at N'); revert n' h' F' N'; intros))
  k_with "callWith ref" => (k_here; k_dflt ((with_reducible show wpAny _ _ (callWith _ (Value.ref _) [] (backTo _ (starEach [] _)) []) _ _ _); refine bm_callWith (by k_asm) (by k_mem) (by first | exact .inl rfl | exact .inr rfl) ?_; k_whole; (try dsimp only [List.nil_append])))
  k_with "call ref" => (k_here; k_dflt (first | (refine bm_call_len (by k_asm) (by k_asm) (by k_asm) (by k_mem) (by k_mem) ?_; k_whole) | (refine bm_call_init (by k_asm) (by k_asm) (by k_asm) (by k_mem) (by k_updF) ?_; k_whole; intro n' h' F' N'; (try dsimp only at N'); revert n' h' F' N'; intros) | (refine bm_call_pop (by k_asm) (by k_asm) (by k_asm) (by k_mem) (by k_updF) (by first | assumption | omega) (by assumption) ?_; k_whole; intro n' h' F' N'; (try dsimp only at N'); revert n' h' F' N'; intros)))
  k_with "wpAt" => ((fail_if_success ks_step "execs cons"); dsimp only; ks_step "execs cons"; refine ks_wpAt_execs_cons ?_)
  k_with "wpAt" => (ks_step "eval Call"; k_dflt (refine ks_wpAt_MethodCall ?_))
  k_with "k_ne" => (first | exact ne_mem1 (by with_reducible assumption) (by with_reducible assumption) | exact ne_mem1 (And.right (by with_reducible assumption)) (by with_reducible assumption) | exact ne_mem1 (And.right (And.right (by with_reducible assumption))) (by with_reducible assumption) | exact ne_mem1 (And.right (And.right (And.right (by with_reducible assumption)))) (by with_reducible assumption) | exact ne_mem1 (And.right (And.right (And.right (And.right (by with_reducible assumption))))) (by with_reducible assumption) | exact ne_mem1 (And.right (And.right (And.right (And.right (And.right (by with_reducible assumption)))))) (by with_reducible assumption) | exact ne_mem1 (And.right (And.right (And.right (And.right (And.right (And.right (by with_reducible assumption))))))) (by with_reducible assumption))
  k_with "subscriptTail" => (k_here; (with_reducible show wpAny _ _ (subscriptTail _ _ (Value.ref _) (Value.int _ _)) _ _ _); k_dflt (refine acc_itemTail (by k_asm) (by k_asm) (by k_asm) (by k_mem) (by first | assumption | omega) (by omega) (by assumption) (by with_unfolding_all rfl) ?_; k_whole))
  k_with "subscriptTail" => (k_here; (with_reducible show wpAny _ _ (subscriptTail _ _ (Value.ref _) (Value.ref _)) _ _ _); k_dflt (refine acc_sliceTail (by k_asm) (by k_asm) (by k_asm) (by k_mem) (by first | exact IsPart.none | exact IsPart.int _ _) (by first | exact IsPart.none | exact IsPart.int _ _) (by first | assumption | omega) (by with_unfolding_all rfl) ?_; k_whole; intro l' h' F' N' l1; (try k_lt l1); revert l' h' F' N' l1; intros))
  k_with "setItem ref" => (k_here; k_dflt (refine acc_sliceSet (by k_asm) (by k_asm) (by k_asm) (by k_updF) (by first | exact IsPart.none | exact IsPart.int _ _) (by first | exact IsPart.none | exact IsPart.int _ _) (by k_mem) (by first | assumption | omega) (by first | assumption | decide | (simp; done) | omega) ?_; k_whole; intro n' h' F' N'; (try dsimp only at N'); revert n' h' F' N'; intros))
  k_with "setAttr ref" => (k_here; k_dflt (refine set_acc (by k_asm) (by k_asm) (by k_asm) (by k_mem) (by k_is) (by k_is) (by k_get) (by k_put) (by k_upd) (by simp) ?_; k_whole; intro h' F' N'; (try dsimp only at N'); revert h' F' N'; intros))
  k_with "call ref" => (k_here; k_dflt ((with_reducible show wpAny _ _ (call (Value.ref 178) _ _) _ _ _); (apply makeA; walk_at "z8"; k_whole; intro ca₁ cd₁ n₁ h1₁ x1₁ h₁ tk₁ F' N' l1 l2; (try k_lt l1); (try k_lt2 l2); revert ca₁ cd₁ n₁ h1₁ x1₁ h₁ tk₁ F' N' l1 l2; intros)))
  k_with "execs cons" => (first | (k_here; k_gentoks) | ((try (rename Flow → Shared → Prop => qq; clear qq)); (try (rename Value → Shared → Prop => qq; clear qq)); refine wpAny_execs_cons ?_; (try dsimp only); k_fold))
  trivial
theorem makeF : ∀ {w : World} {loose : List Str} {mean : ExcName → Option Value} {mg mb : Str → Option Value} {dp un : Nat} {gd : Option (List Code)} {cn : Str} {cs : Scope} {a : Addr} {ccd : Value} {cl : List (Str × Addr)} {outer : List Env} {A₀ : Around} {base h₀ : Heap} {L : Addr} {m : Str → Option Value} {s : Shared} {Q E : Value → Shared → Prop} {news : List (Addr × Obj)} {mx : Int} {k1 k2 k3 k4 : Tok}
  (B : Below A₀ base outer h₀) (F : Fr h₀ L s.heap m) (X : (fr.heap_1 w.params).In h₀) (N : News h₀ L s.heap news) (T : Top topProg loose mean mg mb h₀) (hk : cs.kind = .function) (hdp : dp + 12 < recursionLimit) (hun : un + 160 < cLine) (hret : ∀ (ca cd ln pa fd n : Nat) h1 x1 c a1 a2 a3 a4 a5 a6 t1 t2 t3 t4 t5 t6 u1 u2 u3 u4 h₁ tk₁, Fr h₀ L h₁ m → News h₀ L h₁ ((ca, accObj cd #[] n) :: (cd, iniObj h1 x1 k1) :: (ln, listOf #[] c) :: (pa, instObj 94 fd) :: (fd, fmtObj mx ln ca a1 a2 a3 a4 a5 a6 t1 t2 t3 t4 t5 t6 u1 u2 u3 u4) :: news) → (∀ p ∈ news, p.1 < fd) → @LT.lt Nat _ fd pa → @LT.lt Nat _ pa ln → @LT.lt Nat _ ln cd → @LT.lt Nat _ cd ca → Q (.ref pa) { s with heap := h₁, toks := tk₁ }),
  wpAny (model PySem.Challenge.rw_wu0100_01.row.prog w) (ktrTop dp un gd cn cs L a ccd cl outer) (call (.ref 94) [.int 0 k1, .int mx k2, .str (Str.ofString " ") k3, .str (Str.ofString " ") k4]) Q E s := by
  k_fill
  intro w loose mean mg mb dp un gd cn cs a ccd cl outer A₀ base h₀ L m s Q E news mx k1 k2 k3 k4 B F X N T hk hdp hun hret
  k_dflt (refine' call_cls ?k1 ?k2 ?k3 ?k4 ?k5 ?k6 ?_; (case k1 => k_asm); (case k2 => k_asm); (case k3 => k_asm); (case k4 => k_is); (case k5 => k_is); (case k6 => k_is); k_whole; intro x' d' h' F' N' l1 l2; (try k_lt l1); (try k_lt2 l2))
  rw [under_C]
  k_dflt (refine' code_def ?k1 ?k2 ?k3 ?k4 ?k5 ?kA ?kF ?kK ?k6 ?k7 ?k8 ?k9 ?kB ?_ ?c2 ?c3 ?c4 ?c5; (case kA => exact rfl); (case kF => exact rfl); (case kK => first | exact rfl | assumption); (case k1 => k_asm); (case k2 => k_asm); (case k3 => k_asm); (case k4 => k_asm); (case k5 => k_asm); (case k6 => k_is); (case k7 => k_is); (case k8 => ktr_room); (case k9 => exact BindsTo.of_eq rfl); (case c5 => decide); (case kB => exact locs rfl); (case c2 => exact rfl); (case c3 => exact rfl); (case c4 => exact rfl); k_whole; intro g' L' h' FG' F' N' B' X' T'; (try dsimp only); (try k_lift B'); (try k_fold))
  k_steps
  all_goals (refine' hret _ _ _ _ _ _ _ _ _ _ _ _ _ _ _ _ _ _ _ _ _ _ _ _ _ _ _ ?eF ?eN ?e1 ?e2 ?e3 ?e4 ?e5; (case eF => k_asm); (case eN => k_asm))
  all_goals first | assumption | exact allLt_all _ (by assumption) | exact allLt_all _ (And.right (by assumption)) | exact allLt_all _ (And.right (And.right (by assumption))) | omega
end
section
open PySem PySem.Spec PySem.Calls PySem.W PyProof.Rows
set_option maxRecDepth 100000
set_option maxHeartbeats 400000
noncomputable def LoopOf (w : World) (A : Around) (E : Value → Shared → Prop) (env : Env) (target : Expr) (body orelse : List Stmt) (Q : Flow → Shared → Prop) (x : Value) (s : Shared) : Prop :=
  wpAny (model PG w) A (pyIter x) (fun it s₂ => codeAny (model PG w) A (.forLoop target it body orelse env) (fun r s' => match r with | .ok f => Q f s' | .error e => cameBackBy (model PG w) A env E e s') s₂) E s
noncomputable abbrev itObj (i N : Nat) : Obj := { cls := .type "range_iterator", data := .fields #[rawInt (i : Int), rawInt ((N : Int) - i), rawInt 1] }
noncomputable def dropL (it : Addr) (l : List (Addr × Obj)) : List (Addr × Obj) := l.filter fun p => decide (p.1 ≠ it)
theorem dropL_mem {it : Addr} {l : List (Addr × Obj)} {p : Addr × Obj} (h : p ∈ l) (hn : p.1 ≠ it) : p ∈ dropL it l := List.mem_filter.mpr ⟨h, by simp [hn]⟩
theorem dropL_nd {it : Addr} {l : List (Addr × Obj)} (h : (l.map (·.1)).Nodup) : ((dropL it l).map (·.1)).Nodup := (List.Sublist.map _ List.filter_sublist).nodup h
noncomputable def updM (m : Str → Option Value) (x : Str) (v : Value) : Str → Option Value := fun y => if y = x then some v else m y
theorem updM_updM (m : Str → Option Value) (x : Str) (v v' : Value) : (fun y => if y = x then some v' else updM m x v y) = updM m x v' := by
  funext y; unfold updM; split <;> rfl
section
variable {w : World} {A : Around} {E : Value → Shared → Prop} {s : Shared} {h₀ : Heap} {L a : Addr} {m : Str → Option Value} {news : List (Addr × Obj)} {nm : Str} {sc : Scope} {cd : Value}
theorem For_loop {env : Env} {target iter : Expr} {body orelse : List Stmt} {pos : Pos} {Q : Flow → Shared → Prop}
    (h : wpAny (model PG w) A (eval iter env) (fun x s₁ => LoopOf w A E env target body orelse Q x s₁) E s) (hs : ∀ x, foldedSetIterable iter env x = pure x) : wpAny (model PG w) A (exec (.For target iter body orelse pos) env) Q E s := wpAny_For h hs
theorem range_loop {x : Str} {px : Pos} {body : List Stmt} {N : Nat} {r : Addr} {c0 c1 : Int} {t u v : Tok} {Q : Flow → Shared → Prop} (I : Nat → List (Addr × Obj) → Array GenState → OsState → Prop)
    (hr : IsRange s.heap r c0 c1 1 t u v) (h00 : c0 = 0) (h01 : c1 = (N : Int)) (hN1 : 1 ≤ N) (hN2 : N ≤ 1000) (hh : A.handled = none) (hk : sc.kind = .function) (hl : (envOf nm sc L a cd).kindOf x = some .local) (F : Fr h₀ L s.heap m) (N₀ : News h₀ L s.heap news)
    (hstep : ∀ i it news₁ g o, I i news₁ g o → (it, itObj i N) ∈ news₁ → I i (setL it (itObj (i + 1) N) news₁) g o)
    (hdrop : ∀ it news₁ g o, I N news₁ g o → (it, itObj N N) ∈ news₁ → I N (dropL it news₁) g o)
    (hnd : ∀ i news₁ g o, I i news₁ g o → (news₁.map (·.1)).Nodup)
    (h0 : ∀ it, (∀ y ∈ news, @LT.lt Nat _ y.1 it) → I 0 ((it, itObj 0 N) :: news) s.gens s.os)
    (hbody : ∀ i it news₁ s₁ v E', i < N → I i news₁ s₁.gens s₁.os → (it, itObj (i + 1) N) ∈ news₁ → Fr h₀ L s₁.heap (updM m x (.int (i : Int) v)) → News h₀ L s₁.heap news₁ →
      wpAny (model PG w) A (execs body (envOf nm sc L a cd)) (fun f s₂ => f = .next ∧ ∃ news₂, I (i + 1) news₂ s₂.gens s₂.os ∧ (it, itObj (i + 1) N) ∈ news₂ ∧ Fr h₀ L s₂.heap (updM m x (.int (i : Int) v)) ∧ News h₀ L s₂.heap news₂) E' s₁)
    (hQ : ∀ news₁ s₁ v, I N news₁ s₁.gens s₁.os → Fr h₀ L s₁.heap (updM m x (.int ((N - 1 : Nat) : Int) v)) → News h₀ L s₁.heap news₁ → Q .next s₁) :
    LoopOf w A E (envOf nm sc L a cd) (.Name x px) body [] Q (.ref r) s := by
  subst h00 h01
  have hsz : Builtin.Range.rangeSize 0 (N : Int) 1 = N := by
    unfold Builtin.Range.rangeSize
    simp
    (first | lia | omega)
  have hsm : Builtin.Range.small 0 (N : Int) 1 = true := by
    unfold Builtin.Range.small
    rw [hsz]
    simp [Builtin.Range.rangeFitsLong]
    (first | lia | omega)
  unfold LoopOf
  refine wpAny_pyIter_range hr hsm ?_
  rw [hsz]
  have F1 := F.push (itObj 0 N)
  have N1 := N₀.push F (itObj 0 N)
  have e0 : ({ cls := .type "range_iterator", data := .fields #[rawInt 0, rawInt (N : Int), rawInt 1] } : Obj) = itObj 0 N := by simp [itObj]
  rw [e0]
  generalize hit : s.heap.objs.size = it at *
  refine codeAny_forLoop (fun n s' => ∃ i news₁, i ≤ N ∧ n = N - i ∧ I i news₁ s'.gens s'.os ∧ (it, itObj i N) ∈ news₁ ∧ News h₀ L s'.heap news₁ ∧ ((i = 0 ∧ Fr h₀ L s'.heap m) ∨ ∃ v, 1 ≤ i ∧ Fr h₀ L s'.heap (updM m x (.int ((i - 1 : Nat) : Int) v)))) (fun n s' hI => ?_) N ⟨0, _, Nat.zero_le _, rfl, h0 it (fun y hy => by rw [← hit]; exact Heap.lt_size (N₀ y hy).1), .head _, N1, .inl ⟨rfl, F1⟩⟩ (fun _ => rfl)
  obtain ⟨i, news₁, hiN, rfl, hI1, hm, N', hF⟩ := hI
  have hget := (N' _ hm).1
  have hfr : ∃ m', Fr h₀ L s'.heap m' ∧ ∀ v', (fun y => if y = x then some v' else m' y) = updM m x v' := by
    rcases hF with ⟨-, F'⟩ | ⟨v', -, F'⟩
    · exact ⟨m, F', fun _ => rfl⟩
    · exact ⟨_, F', fun v'' => updM_updM m x _ v''⟩
  have hU := setL_upd hm (hnd i news₁ _ _ hI1)
  have hitL := (N' _ hm).2
  by_cases hlt : i < N
  · refine wpAny_pyNext_range_item hget (by (first | lia | omega)) fun h' hi' hs => ?_
    obtain ⟨m', F', hm'⟩ := hfr
    have kp : ∀ b o, b ≠ it → s'.heap.get? b = some o → h'.get? b = some o := fun b o hb e => hs.extBut b o hb e
    have e1 : h'.get? it = some (itObj (i + 1) N) := by
      have a1 : ((i + 1 : Nat) : Int) = (i : Int) + 1 := by (first | lia | omega)
      have a2 : (N : Int) - ((i + 1 : Nat) : Int) = (N : Int) - (i : Int) - 1 := by (first | lia | omega)
      show h'.get? it = some { cls := .type "range_iterator", data := .fields #[rawInt ((i + 1 : Nat) : Int), rawInt ((N : Int) - ((i + 1 : Nat) : Int)), rawInt 1] }
      rw [a2, a1]
      exact hi'
    have N2 : News h₀ L h' (setL it (itObj (i + 1) N) news₁) := fun p hp => by
      obtain ⟨q, hq, hqe⟩ := List.mem_map.mp hp
      by_cases hqi : q.1 = it
      · rw [if_pos hqi] at hqe; subst hqe; exact ⟨e1, hitL.1, hitL.2⟩
      · rw [if_neg hqi] at hqe; subst hqe; exact ⟨kp _ _ hqi (N' q hq).1, (N' q hq).2⟩
    have F2 : Fr h₀ L h' m' := ⟨F'.ns.at fun o e => kp L o (Ne.symm hitL.1) e, fun b o e => kp b o (fun z => by rw [z, hitL.2] at e; cases e) (F'.keep b o e), F'.above⟩
    refine wpAny_assign_Name (stN F2 N2 (fun h2 F3 N3 => ?_) hk hl)
    rw [hm'] at F3
    refine wpAny_mono (hbody i it _ _ _ _ hlt (hstep i it news₁ _ _ hI1 hm) (setL_mem hm) F3 N3) (fun f s₃ hf => ?_) fun _ _ z => z
    obtain ⟨rfl, news₂, hI2, hm2, F4, N4⟩ := hf
    exact ⟨N - (i + 1), by (first | lia | omega), i + 1, news₂, hlt, rfl, hI2, hm2, N4, .inr ⟨_, Nat.le_add_left _ _, by simpa using F4⟩⟩
  · have e : i = N := by (first | lia | omega)
    subst e
    refine wpAny_pyNext_range_end hh hget (by (first | lia | omega)) fun h' hs => ?_
    have kp : ∀ b o, b ≠ it → s'.heap.get? b = some o → h'.get? b = some o := fun b o hb e => hs b o hb e
    rcases hF with ⟨h0', -⟩ | ⟨v', -, F'⟩
    · (first | lia | omega)
    · refine wpAny_execs_nil ?_
      refine hQ (dropL it news₁) _ v' (hdrop it news₁ _ _ hI1 hm) ⟨F'.ns.at fun o e => kp L o (Ne.symm hitL.1) e, fun b o e => kp b o (fun z => by rw [z, hitL.2] at e; cases e) (F'.keep b o e), F'.above⟩ fun p hp => ?_
      obtain ⟨hp1, hp2⟩ := List.mem_filter.mp hp
      exact ⟨kp _ _ (by simpa using hp2) (N' p hp1).1, (N' p hp1).2⟩
end
end
section
open PySem PySem.Spec PySem.Calls PySem.W PyProof.Rows
set_option maxRecDepth 100000
set_option maxHeartbeats 400000
theorem ite_skip {m : Str → Option Value} {x y : Str} {v : Option Value} {w : Value} (h : x ≠ y) (e : m x = some w) : (fun z => if z = y then v else m z) x = some w := (if_neg h).trans e
theorem upd_skip {m : Str → Option Value} {x y : Str} {v w : Value} (h : x ≠ y) (e : m x = some w) : updM m y v x = some w := (if_neg h).trans e
theorem ite_off {m : Str → Option Value} {x y : Str} {v : Option Value} (h : x ≠ y) : (fun z => if z = y then v else m z) x = m x := if_neg h
theorem upd_off {m : Str → Option Value} {x y : Str} {v : Value} (h : x ≠ y) : updM m y v x = m x := if_neg h
theorem upd_on {m : Str → Option Value} {x : Str} {v : Value} : updM m x v x = some v := if_pos rfl
theorem fr_gen {P : (Str → Option Value) → Prop} {g h : Heap} {L : Addr} {M : Str → Option Value} (F : Fr g L h M) (hP : P M) : ∃ M', P M' ∧ Fr g L h M' := ⟨M, hP, F⟩
theorem ldC {M : Model} {A : Around} {E : Value → Shared → Prop} {s : Shared} {h₀ : Heap} {L a : Addr} {m : Str → Option Value} {name : Str} {scope : Scope} {cd : Value} {x : Str} {pos : Pos} {v : Value} {Q : Value → Shared → Prop} (F : Fr h₀ L s.heap m) (hv : m x = some v) (h : Q v s)
    (hk : scope.kind = .function := by rfl) (hl : (envOfC name scope L a cd).kindOf x = some .local := by rfl) (hd : (x == ("__debug__" : Str)) = false := by decide) : wpAny M A (eval (.Name x pos) (envOfC name scope L a cd)) Q E s := wpAny_Name (wpAny_loadName_local hk hl F.ns hv h) hd
theorem join_str {Md : Model} {A : Around} {E : Value → Shared → Prop} {s : Shared} {g : Heap} {L : Addr} {M : Str → Option Value} {news : List (Addr × Obj)} {e : Expr} {env : Env} {Q : Value → Shared → Prop} (word : Str) (_F : Fr g L s.heap M) (_N : News g L s.heap news)
    (h : ∀ QQ : Value → Shared → Prop, (∀ k h tk, Fr g L h M → News g L h news → QQ (.str word k) { s with heap := h, toks := tk }) → wpAny Md A (eval e env) QQ E s)
    (hQ : ∀ k h tk, Fr g L h M → News g L h news → Q (.str word k) { s with heap := h, toks := tk }) : wpAny Md A (eval e env) Q E s := h Q hQ
noncomputable def hasS (x y : Str) : Bool := !(Builtin.Str.occurrences x y 0 x.length 1).isEmpty
theorem in_is {w : World} {A : Around} {E : Value → Shared → Prop} {s : Shared} {x y : Str} {t u : Tok} {b : Bool} {Q : Value → Shared → Prop} (h : hasS x y = b) (hq : Q (.bool b) s) : wpAny (model PG w) A (compareOp .In (.str y u) (.str x t)) Q E s :=
  PySem.P.in_str (by show Q (.bool (hasS x y)) s; rw [h]; exact hq)
end
section
open PySem PySem.Spec PySem.Calls PySem.W PyProof.Rows
set_option maxRecDepth 100000
set_option maxHeartbeats 0
theorem rows_S15_1 : True := by
  k_with_none
  w_top off
  k_with "execs cons" => ((try (rename Flow → Shared → Prop => qq; clear qq)); (try (rename Value → Shared → Prop => qq; clear qq)); refine wpAny_execs_cons ?_; (try dsimp only); (try k_fold))
  k_with "compareOp In str str" => (refine in_is (by with_reducible assumption) ?_)
  k_with "call builtin:str.replace" => (refine SC.replace (Nat.succ_ne_zero _) (Nat.succ_ne_zero _) (Nat.ne_of_lt (Nat.lt_succ_self _)) (by decide +kernel) (by with_reducible assumption) ?_; intros)
  trivial
theorem esc_no : ∀ {w : World} {loose : List Str} {mean : ExcName → Option Value} {mg mb : Str → Option Value} {dp un : Nat} {gd : Option (List Code)} {cn : Str} {cs : Scope} {a : Addr} {ccd : Value} {cl : List (Str × Addr)} {outer : List Env} {A₀ : Around} {base h₀ : Heap} {L : Addr} {m : Str → Option Value} {s : Shared} {Q E : Value → Shared → Prop} {news : List (Addr × Obj)} {x : Str} {k : Tok}
  (B : Below A₀ base outer h₀) (F : Fr h₀ L s.heap m) (X : (fr.heap_1 w.params).In h₀) (N : News h₀ L s.heap news) (T : Top topProg loose mean mg mb h₀) (hk : cs.kind = .function) (hdp : dp + 12 < recursionLimit) (hun : un + 160 < cLine) (e0 : hasS x (Str.ofString "&") = false) (e1 : hasS x (Str.ofString "<") = false) (e2 : hasS x (Str.ofString ">") = false) (e3 : hasS x (Str.ofString "\"") = false) (e4 : hasS x (Str.ofString "\r") = false) (e5 : hasS x (Str.ofString "\n") = false) (e6 : hasS x (Str.ofString "\t") = false) (hret : ∀ k₁ h₁ tk₁, Fr h₀ L h₁ m → News h₀ L h₁ news → Q (.str x k₁) { s with heap := h₁, toks := tk₁ }),
  wpAny (model PySem.Challenge.rw_wu0100_01.row.prog w) (ktrTop dp un gd cn cs L a ccd cl outer) (call (.ref 294) [.str x k]) Q E s := by
  k_fill
  intro w loose mean mg mb dp un gd cn cs a ccd cl outer A₀ base h₀ L m s Q E news x k B F X N T hk hdp hun e0 e1 e2 e3 e4 e5 e6 hret
  refine wpAny_call ?_
  k_dflt (refine' code_def ?k1 ?k2 ?k3 ?k4 ?k5 ?kA ?kF ?kK ?k6 ?k7 ?k8 ?k9 ?kB ?_ ?c2 ?c3 ?c4 ?c5; (case kA => exact rfl); (case kF => exact rfl); (case kK => first | exact rfl | assumption); (case k1 => k_asm); (case k2 => k_asm); (case k3 => k_asm); (case k4 => k_asm); (case k5 => k_asm); (case k6 => k_is); (case k7 => k_is); (case k8 => ktr_room); (case k9 => exact BindsTo.of_eq rfl); (case c5 => decide); (case kB => exact locs rfl); (case c2 => exact rfl); (case c3 => exact rfl); (case c4 => exact rfl); k_whole; intro g' L' h' FG' F' N' B' X' T'; (try dsimp only); (try k_lift B'); (try k_fold))
  k_steps
  all_goals exact hret _ _ _ (by k_asm) (by k_asm)
theorem esc_amp : ∀ {w : World} {loose : List Str} {mean : ExcName → Option Value} {mg mb : Str → Option Value} {dp un : Nat} {gd : Option (List Code)} {cn : Str} {cs : Scope} {a : Addr} {ccd : Value} {cl : List (Str × Addr)} {outer : List Env} {A₀ : Around} {base h₀ : Heap} {L : Addr} {m : Str → Option Value} {s : Shared} {Q E : Value → Shared → Prop} {news : List (Addr × Obj)} {x : Str} {k : Tok}
  (B : Below A₀ base outer h₀) (F : Fr h₀ L s.heap m) (X : (fr.heap_1 w.params).In h₀) (N : News h₀ L s.heap news) (T : Top topProg loose mean mg mb h₀) (hk : cs.kind = .function) (hdp : dp + 12 < recursionLimit) (hun : un + 160 < cLine) (e0 : hasS x (Str.ofString "&") = true) (e1 : hasS (Txt.replace x (Str.ofString "&") (Str.ofString "&amp;")) (Str.ofString "<") = false) (e2 : hasS (Txt.replace x (Str.ofString "&") (Str.ofString "&amp;")) (Str.ofString ">") = false) (e3 : hasS (Txt.replace x (Str.ofString "&") (Str.ofString "&amp;")) (Str.ofString "\"") = false) (e4 : hasS (Txt.replace x (Str.ofString "&") (Str.ofString "&amp;")) (Str.ofString "\r") = false) (e5 : hasS (Txt.replace x (Str.ofString "&") (Str.ofString "&amp;")) (Str.ofString "\n") = false) (e6 : hasS (Txt.replace x (Str.ofString "&") (Str.ofString "&amp;")) (Str.ofString "\t") = false) (hb : x.length + (x.length + 1) * (Str.ofString "&amp;").length ≤ 16777216) (hret : ∀ k₁ h₁ tk₁, Fr h₀ L h₁ m → News h₀ L h₁ news → Q (.str (Txt.replace x (Str.ofString "&") (Str.ofString "&amp;")) k₁) { s with heap := h₁, toks := tk₁ }),
  wpAny (model PySem.Challenge.rw_wu0100_01.row.prog w) (ktrTop dp un gd cn cs L a ccd cl outer) (call (.ref 294) [.str x k]) Q E s := by
  k_fill
  intro w loose mean mg mb dp un gd cn cs a ccd cl outer A₀ base h₀ L m s Q E news x k B F X N T hk hdp hun e0 e1 e2 e3 e4 e5 e6 hb hret
  refine wpAny_call ?_
  k_dflt (refine' code_def ?k1 ?k2 ?k3 ?k4 ?k5 ?kA ?kF ?kK ?k6 ?k7 ?k8 ?k9 ?kB ?_ ?c2 ?c3 ?c4 ?c5; (case kA => exact rfl); (case kF => exact rfl); (case kK => first | exact rfl | assumption); (case k1 => k_asm); (case k2 => k_asm); (case k3 => k_asm); (case k4 => k_asm); (case k5 => k_asm); (case k6 => k_is); (case k7 => k_is); (case k8 => ktr_room); (case k9 => exact BindsTo.of_eq rfl); (case c5 => decide); (case kB => exact locs rfl); (case c2 => exact rfl); (case c3 => exact rfl); (case c4 => exact rfl); k_whole; intro g' L' h' FG' F' N' B' X' T'; (try dsimp only); (try k_lift B'); (try k_fold))
  k_steps
  all_goals exact hret _ _ _ (by k_asm) (by k_asm)
theorem esc_lt : ∀ {w : World} {loose : List Str} {mean : ExcName → Option Value} {mg mb : Str → Option Value} {dp un : Nat} {gd : Option (List Code)} {cn : Str} {cs : Scope} {a : Addr} {ccd : Value} {cl : List (Str × Addr)} {outer : List Env} {A₀ : Around} {base h₀ : Heap} {L : Addr} {m : Str → Option Value} {s : Shared} {Q E : Value → Shared → Prop} {news : List (Addr × Obj)} {x : Str} {k : Tok}
  (B : Below A₀ base outer h₀) (F : Fr h₀ L s.heap m) (X : (fr.heap_1 w.params).In h₀) (N : News h₀ L s.heap news) (T : Top topProg loose mean mg mb h₀) (hk : cs.kind = .function) (hdp : dp + 12 < recursionLimit) (hun : un + 160 < cLine) (e0 : hasS x (Str.ofString "&") = false) (e1 : hasS x (Str.ofString "<") = true) (e2 : hasS (Txt.replace x (Str.ofString "<") (Str.ofString "&lt;")) (Str.ofString ">") = false) (e3 : hasS (Txt.replace x (Str.ofString "<") (Str.ofString "&lt;")) (Str.ofString "\"") = false) (e4 : hasS (Txt.replace x (Str.ofString "<") (Str.ofString "&lt;")) (Str.ofString "\r") = false) (e5 : hasS (Txt.replace x (Str.ofString "<") (Str.ofString "&lt;")) (Str.ofString "\n") = false) (e6 : hasS (Txt.replace x (Str.ofString "<") (Str.ofString "&lt;")) (Str.ofString "\t") = false) (hb : x.length + (x.length + 1) * (Str.ofString "&lt;").length ≤ 16777216) (hret : ∀ k₁ h₁ tk₁, Fr h₀ L h₁ m → News h₀ L h₁ news → Q (.str (Txt.replace x (Str.ofString "<") (Str.ofString "&lt;")) k₁) { s with heap := h₁, toks := tk₁ }),
  wpAny (model PySem.Challenge.rw_wu0100_01.row.prog w) (ktrTop dp un gd cn cs L a ccd cl outer) (call (.ref 294) [.str x k]) Q E s := by
  k_fill
  intro w loose mean mg mb dp un gd cn cs a ccd cl outer A₀ base h₀ L m s Q E news x k B F X N T hk hdp hun e0 e1 e2 e3 e4 e5 e6 hb hret
  refine wpAny_call ?_
  k_dflt (refine' code_def ?k1 ?k2 ?k3 ?k4 ?k5 ?kA ?kF ?kK ?k6 ?k7 ?k8 ?k9 ?kB ?_ ?c2 ?c3 ?c4 ?c5; (case kA => exact rfl); (case kF => exact rfl); (case kK => first | exact rfl | assumption); (case k1 => k_asm); (case k2 => k_asm); (case k3 => k_asm); (case k4 => k_asm); (case k5 => k_asm); (case k6 => k_is); (case k7 => k_is); (case k8 => ktr_room); (case k9 => exact BindsTo.of_eq rfl); (case c5 => decide); (case kB => exact locs rfl); (case c2 => exact rfl); (case c3 => exact rfl); (case c4 => exact rfl); k_whole; intro g' L' h' FG' F' N' B' X' T'; (try dsimp only); (try k_lift B'); (try k_fold))
  k_steps
  all_goals exact hret _ _ _ (by k_asm) (by k_asm)
theorem esc_gt : ∀ {w : World} {loose : List Str} {mean : ExcName → Option Value} {mg mb : Str → Option Value} {dp un : Nat} {gd : Option (List Code)} {cn : Str} {cs : Scope} {a : Addr} {ccd : Value} {cl : List (Str × Addr)} {outer : List Env} {A₀ : Around} {base h₀ : Heap} {L : Addr} {m : Str → Option Value} {s : Shared} {Q E : Value → Shared → Prop} {news : List (Addr × Obj)} {x : Str} {k : Tok}
  (B : Below A₀ base outer h₀) (F : Fr h₀ L s.heap m) (X : (fr.heap_1 w.params).In h₀) (N : News h₀ L s.heap news) (T : Top topProg loose mean mg mb h₀) (hk : cs.kind = .function) (hdp : dp + 12 < recursionLimit) (hun : un + 160 < cLine) (e0 : hasS x (Str.ofString "&") = false) (e1 : hasS x (Str.ofString "<") = false) (e2 : hasS x (Str.ofString ">") = true) (e3 : hasS (Txt.replace x (Str.ofString ">") (Str.ofString "&gt;")) (Str.ofString "\"") = false) (e4 : hasS (Txt.replace x (Str.ofString ">") (Str.ofString "&gt;")) (Str.ofString "\r") = false) (e5 : hasS (Txt.replace x (Str.ofString ">") (Str.ofString "&gt;")) (Str.ofString "\n") = false) (e6 : hasS (Txt.replace x (Str.ofString ">") (Str.ofString "&gt;")) (Str.ofString "\t") = false) (hb : x.length + (x.length + 1) * (Str.ofString "&gt;").length ≤ 16777216) (hret : ∀ k₁ h₁ tk₁, Fr h₀ L h₁ m → News h₀ L h₁ news → Q (.str (Txt.replace x (Str.ofString ">") (Str.ofString "&gt;")) k₁) { s with heap := h₁, toks := tk₁ }),
  wpAny (model PySem.Challenge.rw_wu0100_01.row.prog w) (ktrTop dp un gd cn cs L a ccd cl outer) (call (.ref 294) [.str x k]) Q E s := by
  k_fill
  intro w loose mean mg mb dp un gd cn cs a ccd cl outer A₀ base h₀ L m s Q E news x k B F X N T hk hdp hun e0 e1 e2 e3 e4 e5 e6 hb hret
  refine wpAny_call ?_
  k_dflt (refine' code_def ?k1 ?k2 ?k3 ?k4 ?k5 ?kA ?kF ?kK ?k6 ?k7 ?k8 ?k9 ?kB ?_ ?c2 ?c3 ?c4 ?c5; (case kA => exact rfl); (case kF => exact rfl); (case kK => first | exact rfl | assumption); (case k1 => k_asm); (case k2 => k_asm); (case k3 => k_asm); (case k4 => k_asm); (case k5 => k_asm); (case k6 => k_is); (case k7 => k_is); (case k8 => ktr_room); (case k9 => exact BindsTo.of_eq rfl); (case c5 => decide); (case kB => exact locs rfl); (case c2 => exact rfl); (case c3 => exact rfl); (case c4 => exact rfl); k_whole; intro g' L' h' FG' F' N' B' X' T'; (try dsimp only); (try k_lift B'); (try k_fold))
  k_steps
  all_goals exact hret _ _ _ (by k_asm) (by k_asm)
theorem esc_quot : ∀ {w : World} {loose : List Str} {mean : ExcName → Option Value} {mg mb : Str → Option Value} {dp un : Nat} {gd : Option (List Code)} {cn : Str} {cs : Scope} {a : Addr} {ccd : Value} {cl : List (Str × Addr)} {outer : List Env} {A₀ : Around} {base h₀ : Heap} {L : Addr} {m : Str → Option Value} {s : Shared} {Q E : Value → Shared → Prop} {news : List (Addr × Obj)} {x : Str} {k : Tok}
  (B : Below A₀ base outer h₀) (F : Fr h₀ L s.heap m) (X : (fr.heap_1 w.params).In h₀) (N : News h₀ L s.heap news) (T : Top topProg loose mean mg mb h₀) (hk : cs.kind = .function) (hdp : dp + 12 < recursionLimit) (hun : un + 160 < cLine) (e0 : hasS x (Str.ofString "&") = false) (e1 : hasS x (Str.ofString "<") = false) (e2 : hasS x (Str.ofString ">") = false) (e3 : hasS x (Str.ofString "\"") = true) (e4 : hasS (Txt.replace x (Str.ofString "\"") (Str.ofString "&quot;")) (Str.ofString "\r") = false) (e5 : hasS (Txt.replace x (Str.ofString "\"") (Str.ofString "&quot;")) (Str.ofString "\n") = false) (e6 : hasS (Txt.replace x (Str.ofString "\"") (Str.ofString "&quot;")) (Str.ofString "\t") = false) (hb : x.length + (x.length + 1) * (Str.ofString "&quot;").length ≤ 16777216) (hret : ∀ k₁ h₁ tk₁, Fr h₀ L h₁ m → News h₀ L h₁ news → Q (.str (Txt.replace x (Str.ofString "\"") (Str.ofString "&quot;")) k₁) { s with heap := h₁, toks := tk₁ }),
  wpAny (model PySem.Challenge.rw_wu0100_01.row.prog w) (ktrTop dp un gd cn cs L a ccd cl outer) (call (.ref 294) [.str x k]) Q E s := by
  k_fill
  intro w loose mean mg mb dp un gd cn cs a ccd cl outer A₀ base h₀ L m s Q E news x k B F X N T hk hdp hun e0 e1 e2 e3 e4 e5 e6 hb hret
  refine wpAny_call ?_
  k_dflt (refine' code_def ?k1 ?k2 ?k3 ?k4 ?k5 ?kA ?kF ?kK ?k6 ?k7 ?k8 ?k9 ?kB ?_ ?c2 ?c3 ?c4 ?c5; (case kA => exact rfl); (case kF => exact rfl); (case kK => first | exact rfl | assumption); (case k1 => k_asm); (case k2 => k_asm); (case k3 => k_asm); (case k4 => k_asm); (case k5 => k_asm); (case k6 => k_is); (case k7 => k_is); (case k8 => ktr_room); (case k9 => exact BindsTo.of_eq rfl); (case c5 => decide); (case kB => exact locs rfl); (case c2 => exact rfl); (case c3 => exact rfl); (case c4 => exact rfl); k_whole; intro g' L' h' FG' F' N' B' X' T'; (try dsimp only); (try k_lift B'); (try k_fold))
  k_steps
  all_goals exact hret _ _ _ (by k_asm) (by k_asm)
end
section
open PySem PySem.Spec PySem.Calls PySem.W PyProof.Rows
set_option maxRecDepth 100000
set_option maxHeartbeats 400000
section
variable {w : World} {A : Around} {E : Value → Shared → Prop} {s : Shared} {h₀ : Heap} {L : Addr} {m : Str → Option Value} {news : List (Addr × Obj)} {env : Env}
theorem dropL_ne {it : Addr} {l : List (Addr × Obj)} : ∀ p ∈ dropL it l, p.1 ≠ it := fun p hp => by simpa using (List.mem_filter.mp hp).2
theorem dropL_sub {it : Addr} {l : List (Addr × Obj)} : ∀ p ∈ dropL it l, p ∈ l := fun _ hp => (List.mem_filter.mp hp).1
theorem news_oneBut {h h' : Heap} {it : Addr} {l : List (Addr × Obj)} (N : News h₀ L h l) (hk : ∀ b o, b ∉ [it] → h.get? b = some o → h'.get? b = some o) (hn : ∀ p ∈ l, p.1 ≠ it) : News h₀ L h' l := fun p hp =>
  ⟨hk _ _ (fun z => hn p hp (List.mem_singleton.mp z)) (N p hp).1, (N p hp).2⟩
theorem fr_oneBut {h h' : Heap} {it : Addr} (F : Fr h₀ L h m) (hk : ∀ b o, b ∉ [it] → h.get? b = some o → h'.get? b = some o) (hL : it ≠ L) (h0 : h₀.get? it = none) : Fr h₀ L h' m :=
  ⟨F.ns.at' fun o e => hk L o (fun z => hL (List.mem_singleton.mp z).symm) e, fun b o e => hk b o (fun z => by rw [List.mem_singleton.mp z, h0] at e; cases e) (F.keep b o e), F.above⟩
noncomputable def NextOk (h₀ : Heap) (L : Addr) (it : Addr) (o' : Obj) (I : List (Addr × Obj) → (Str → Option Value) → Array GenState → OsState → Prop) (s₂ : Shared) : Prop :=
  ∃ news₂ m₂, (it, o') ∈ news₂ ∧ I (dropL it news₂) m₂ s₂.gens s₂.os ∧ Fr h₀ L s₂.heap m₂ ∧ News h₀ L s₂.heap news₂
theorem walk_core {x : Str} {px : Pos} {body : List Stmt} {n : Nat} {it : Addr} {fp : List Addr} {o : Obj} {P : Nat → Value → Prop} {St : Nat → Heap → Prop} {C : Obj → Prop} {Q : Flow → Shared → Prop}
    (S : List (Addr × Obj) → Prop) (I : Nat → List (Addr × Obj) → (Str → Option Value) → Array GenState → OsState → Prop)
    (W : Walks PG w A it fp [it] n P St) (hIo : ∀ i h, St i h → ∃ o, h.get? it = some o ∧ C o)
    (hSt : ∀ i h h' o nw, St i h → h.get? it = some o → h'.get? it = some o → (∀ b o, h₀.get? b = some o → h'.get? b = some o) → News h₀ L h' nw → S nw → St i h')
    (hLe : env.locals = L) (hk : env.scope.kind = .function) (hl : env.kindOf x = some .local) (F : Fr h₀ L s.heap m) (N : News h₀ L s.heap ((it, o) :: news)) (hst : St 0 s.heap) (hfr : ∀ y ∈ news, y.1 ≠ it)
    (hI0 : I 0 news m s.gens s.os) (hS : ∀ i rest m g o, I i rest m g o → S rest)
    (hbody : ∀ i rest m₁ s₁ v o' E', i < n → P i v → C o' → I i rest m₁ s₁.gens s₁.os → (∀ y ∈ rest, y.1 ≠ it) → Fr h₀ L s₁.heap (updM m₁ x v) → News h₀ L s₁.heap ((it, o') :: rest) →
      wpAny (model PG w) A (execs body env) (fun f s₂ => match f with
        | .next | .cont => NextOk h₀ L it o' (I (i + 1)) s₂
        | .brk => Q .next s₂
        | .ret v => Q (.ret v) s₂) E' s₁)
    (hQ : ∀ rest m₁ s₁, I n rest m₁ s₁.gens s₁.os → Fr h₀ L s₁.heap m₁ → News h₀ L s₁.heap rest → Q .next s₁) :
    codeAny (model PG w) A (.forLoop (.Name x px) (.ref it) body [] env) (fun r s' => match r with | .ok f => Q f s' | .error e => cameBackBy (model PG w) A env E e s') s := by
  subst hLe
  have hp : (env.scope.kind == .class || (env.scope.kind == .module && env.locals != env.globals)) = false := by rw [hk]; rfl
  have hit := (N _ (.head _)).2
  refine codeAny_forLoop (fun k s' => ∃ i rest m' o', i ≤ n ∧ k = n - i ∧ I i rest m' s'.gens s'.os ∧ (∀ y ∈ rest, y.1 ≠ it) ∧ St i s'.heap ∧ News h₀ env.locals s'.heap ((it, o') :: rest) ∧ Fr h₀ env.locals s'.heap m') (fun k s' hI => ?_) n ⟨0, news, m, o, Nat.zero_le _, rfl, hI0, hfr, hst, N, F⟩ (fun _ => rfl)
  obtain ⟨i, rest, m', o', hiN, rfl, hI1, hne, hst', N', F'⟩ := hI
  by_cases hlt : i < n
  · refine W.item i _ _ _ hlt hst' fun v h' tk hP hst2 hkp => ?_
    obtain ⟨o2, ho2, hC2⟩ := hIo _ _ hst2
    have F2 : Fr h₀ env.locals h' m' := fr_oneBut F' hkp hit.1 hit.2
    have N2 : News h₀ env.locals h' ((it, o2) :: rest) := fun p hp => by
      rcases List.mem_cons.mp hp with rfl | hp
      · exact ⟨ho2, hit⟩
      · exact news_oneBut (fun p hp => N' p (.tail _ hp)) hkp hne p hp
    refine wpAny_assign_Name (wpAny_storeName_local hl F2.ns (fun h3 hn3 hs3 => ?_) hp)
    have F3 := F2.set hn3 hs3
    have N3 := N2.set hs3
    refine wpAny_mono (hbody i rest _ _ v o2 _ hlt hP hC2 hI1 hne F3 N3) (fun f s₃ hf => ?_) fun _ _ z => z
    cases f with
    | brk => exact hf
    | ret v => exact hf
    | next | cont =>
      obtain ⟨news₂, m₂, hm, hI2, F4, N4⟩ := hf
      have Nd : News h₀ env.locals s₃.heap (dropL it news₂) := fun p hp => N4 p (dropL_sub p hp)
      have hst3 : St (i + 1) s₃.heap := by
        have e3 : h3.get? it = some o2 := (N3 _ (.head _)).1
        exact hSt _ h3 _ o2 _ (hSt _ h' _ o2 rest hst2 ho2 e3 F3.keep (fun p hp => N3 p (.tail _ hp)) (hS _ _ _ _ _ hI1)) e3 (N4 _ hm).1 F4.keep Nd (hS _ _ _ _ _ hI2)
      refine ⟨n - (i + 1), by omega, i + 1, dropL it news₂, m₂, o2, hlt, rfl, hI2, dropL_ne, hst3, fun p hp => ?_, F4⟩
      rcases List.mem_cons.mp hp with rfl | hp
      · exact N4 _ hm
      · exact Nd p hp
  · have e : i = n := by omega
    subst e
    refine W.done _ _ _ hst' fun h' tk hkp => ?_
    refine wpAny_execs_nil ?_
    exact hQ rest m' _ hI1 (fr_oneBut F' hkp hit.1 hit.2) (news_oneBut (fun p hp => N' p (.tail _ hp)) hkp hne)
noncomputable abbrev IsItr (c : String) (o : Obj) : Prop := o.cls = .type c
theorem loop_range {x : Str} {px : Pos} {body : List Stmt} {n : Nat} {r : Addr} {a b c : Int} {t u v : Tok} {Q : Flow → Shared → Prop} (I : Nat → List (Addr × Obj) → (Str → Option Value) → Array GenState → OsState → Prop)
    (hr : IsRange s.heap r a b c t u v) (hn : Builtin.Range.rangeSize a b c = (n : Int)) (hsm : Builtin.Range.small a b c = true) (hh : A.handled = none) (hLe : env.locals = L) (hk : env.scope.kind = .function) (hl : env.kindOf x = some .local) (F : Fr h₀ L s.heap m) (N : News h₀ L s.heap news)
    (hI0 : I 0 news m s.gens s.os)
    (hbody : ∀ it i rest m₁ s₁ tk o' E', (∀ y ∈ news, @LT.lt Nat _ y.1 it) → i < n → o'.cls = .type "range_iterator" → I i rest m₁ s₁.gens s₁.os → (∀ y ∈ rest, y.1 ≠ it) → Fr h₀ L s₁.heap (updM m₁ x (.int (a + i * c) tk)) → News h₀ L s₁.heap ((it, o') :: rest) →
      wpAny (model PG w) A (execs body env) (fun f s₂ => match f with
        | .next | .cont => NextOk h₀ L it o' (I (i + 1)) s₂
        | .brk => Q .next s₂
        | .ret v => Q (.ret v) s₂) E' s₁)
    (hQ : ∀ rest m₁ s₁, I n rest m₁ s₁.gens s₁.os → Fr h₀ L s₁.heap m₁ → News h₀ L s₁.heap rest → Q .next s₁) :
    LoopOf w A E env (.Name x px) body [] Q (.ref r) s := by
  unfold LoopOf
  refine wpAny_pyIter_range hr hsm ?_
  rw [hn]
  have F1 := F.push ({ cls := .type "range_iterator", data := .fields #[rawInt a, rawInt (n : Int), rawInt c] } : Obj)
  have N1 := N.push F ({ cls := .type "range_iterator", data := .fields #[rawInt a, rawInt (n : Int), rawInt c] } : Obj)
  have hlt : ∀ y ∈ news, @LT.lt Nat _ y.1 s.heap.objs.size := fun y hy => Heap.lt_size (N y hy).1
  refine walk_core (S := fun _ => True) (C := IsItr "range_iterator") (P := fun i v => ∃ t, v = .int (a + i * c) t) (St := fun i h => IsRangeIter h s.heap.objs.size (a + i * c) ((n : Int) - i) c) I (Walks.range hh s.heap.objs.size a c n) (fun i h st => ⟨_, st, rfl⟩) (fun i h h' o nw st e e' _ _ _ => ?_) hLe hk hl F1 N1 (by simpa [IsRangeIter] using Heap.get?_push_size _ rfl) (fun y hy => Nat.ne_of_lt (hlt y hy)) hI0 (fun _ _ _ _ _ _ => trivial) (fun i rest m₁ s₁ v o' E' hi hP hC hI hne F' N' => ?_) hQ
  · have st' : h.get? s.heap.objs.size = some _ := st
    show h'.get? s.heap.objs.size = some _
    rw [e', ← e]; exact st'
  · obtain ⟨tk, rfl⟩ := hP
    exact hbody _ i rest m₁ s₁ tk o' E' hlt hi hC hI hne F' N'
theorem loop_list {x : Str} {px : Pos} {body : List Stmt} {l : Addr} {vs : Array Value} {c : Nat} {Q : Flow → Shared → Prop} (I : Nat → List (Addr × Obj) → (Str → Option Value) → Array GenState → OsState → Prop)
    (hl0 : (l, listOf vs c) ∈ news) (hh : A.handled = none) (hLe : env.locals = L) (hk : env.scope.kind = .function) (hl : env.kindOf x = some .local) (F : Fr h₀ L s.heap m) (N : News h₀ L s.heap news)
    (hI0 : I 0 news m s.gens s.os) (hS : ∀ i rest m g o, I i rest m g o → (l, listOf vs c) ∈ rest)
    (hbody : ∀ it i rest m₁ s₁ v o' E', (∀ y ∈ news, @LT.lt Nat _ y.1 it) → i < vs.size → vs[i]? = some v → o'.cls = .type "list_iterator" → I i rest m₁ s₁.gens s₁.os → (∀ y ∈ rest, y.1 ≠ it) → Fr h₀ L s₁.heap (updM m₁ x v) → News h₀ L s₁.heap ((it, o') :: rest) →
      wpAny (model PG w) A (execs body env) (fun f s₂ => match f with
        | .next | .cont => NextOk h₀ L it o' (I (i + 1)) s₂
        | .brk => Q .next s₂
        | .ret v => Q (.ret v) s₂) E' s₁)
    (hQ : ∀ rest m₁ s₁, I vs.size rest m₁ s₁.gens s₁.os → Fr h₀ L s₁.heap m₁ → News h₀ L s₁.heap rest → Q .next s₁) :
    LoopOf w A E env (.Name x px) body [] Q (.ref l) s := by
  unfold LoopOf
  have hL : ∀ h nw, (∀ b o, h₀.get? b = some o → h.get? b = some o) → News h₀ L h nw → (l, listOf vs c) ∈ nw → h.IsList l vs := fun h nw _ N' hm => ⟨_, (N' _ hm).1, rfl, _, rfl⟩
  have hlst : s.heap.IsList l vs := hL _ _ F.keep N hl0
  refine wpAny_pyIter_list hlst ?_
  have F1 := F.push ({ cls := .type "list_iterator", data := .fields #[.ref l, .int 0 0] } : Obj)
  have N1 := N.push F ({ cls := .type "list_iterator", data := .fields #[.ref l, .int 0 0] } : Obj)
  have hlt : ∀ y ∈ news, @LT.lt Nat _ y.1 s.heap.objs.size := fun y hy => Heap.lt_size (N y hy).1
  refine walk_core (S := fun nw => (l, listOf vs c) ∈ nw) (C := IsItr "list_iterator") I (Walks.list hh s.heap.objs.size l (Nat.ne_of_lt (hlt _ hl0)) vs) (fun i h st => let ⟨o, e, hc, _⟩ := st.1; ⟨o, e, hc⟩) (fun i h h' o nw st e e' k N' S' => ⟨?_, hL _ _ k N' S'⟩) hLe hk hl F1 N1 ⟨⟨_, Heap.get?_push_size _ rfl, rfl, rfl⟩, hlst.push _⟩ (fun y hy => Nat.ne_of_lt (hlt y hy)) hI0 hS (fun i rest m₁ s₁ v o' E' hi hP hC hI hne F' N' => hbody _ i rest m₁ s₁ v o' E' hlt hi hP hC hI hne F' N') hQ
  obtain ⟨o', q, r⟩ := st.1
  rw [e] at q; cases q; exact ⟨o, e', r⟩
theorem loop_str {x : Str} {px : Pos} {body : List Stmt} {y : Str} {t : Tok} {Q : Flow → Shared → Prop} (I : Nat → List (Addr × Obj) → (Str → Option Value) → Array GenState → OsState → Prop)
    (hh : A.handled = none) (hLe : env.locals = L) (hk : env.scope.kind = .function) (hl : env.kindOf x = some .local) (F : Fr h₀ L s.heap m) (N : News h₀ L s.heap news)
    (hI0 : I 0 news m s.gens s.os)
    (hbody : ∀ it i rest m₁ s₁ c tk o' E', (∀ z ∈ news, @LT.lt Nat _ z.1 it) → i < y.cps.size → y.cps[i]? = some c → I i rest m₁ s₁.gens s₁.os → (∀ z ∈ rest, z.1 ≠ it) → Fr h₀ L s₁.heap (updM m₁ x (.str ⟨#[c]⟩ tk)) → News h₀ L s₁.heap ((it, o') :: rest) →
      wpAny (model PG w) A (execs body env) (fun f s₂ => match f with
        | .next | .cont => NextOk h₀ L it o' (I (i + 1)) s₂
        | .brk => Q .next s₂
        | .ret v => Q (.ret v) s₂) E' s₁)
    (hQ : ∀ rest m₁ s₁, I y.cps.size rest m₁ s₁.gens s₁.os → Fr h₀ L s₁.heap m₁ → News h₀ L s₁.heap rest → Q .next s₁) :
    LoopOf w A E env (.Name x px) body [] Q (.str y t) s := by
  unfold LoopOf
  have hlt : ∀ y ∈ news, @LT.lt Nat _ y.1 s.heap.objs.size := fun y hy => Heap.lt_size (N y hy).1
  have key : ∀ cls : String, (∀ A', A'.handled = none → Walks PG w A' s.heap.objs.size [s.heap.objs.size] [s.heap.objs.size] y.cps.size (SignAt y) (fun i h => h.IsStrIter s.heap.objs.size cls y t i)) → codeAny (model PG w) A (.forLoop (.Name x px) (.ref s.heap.objs.size) body [] env) (fun r s' => match r with | .ok f => Q f s' | .error e => cameBackBy (model PG w) A env E e s') { s with heap := s.heap.push ({ cls := .type cls, data := .fields #[.str y t, .int 0 0] } : Obj) } := fun cls W => by
    have F1 := F.push ({ cls := .type cls, data := .fields #[.str y t, .int 0 0] } : Obj)
    have N1 := N.push F ({ cls := .type cls, data := .fields #[.str y t, .int 0 0] } : Obj)
    refine walk_core (S := fun _ => True) (C := fun _ => True) I (W A hh) (fun i h st => let ⟨o, e, _⟩ := st; ⟨o, e, trivial⟩) (fun i h h' o nw st e e' k N' S' => ?_) hLe hk hl F1 N1 ⟨_, Heap.get?_push_size _ rfl, rfl, rfl⟩ (fun y hy => Nat.ne_of_lt (hlt y hy)) hI0 (fun _ _ _ _ _ _ => trivial) (fun i rest m₁ s₁ v o' E' hi hP hC hI hne F' N' => ?_) hQ
    · obtain ⟨o', q, r⟩ := st
      rw [e] at q; cases q; exact ⟨o, e', r⟩
    · obtain ⟨c, tk, hc, rfl⟩ := hP
      exact hbody _ i rest m₁ s₁ c tk o' E' hlt hi hc hI hne F' N'
  cases ha : y.cps.all (· < 128)
  · exact wpAny_pyIter_wide ha (key _ fun A' hA => Walks.strWide hA _ y t)
  · exact wpAny_pyIter_ascii ha (key _ fun A' hA => Walks.strAscii hA _ y t)
end
end
section
open PySem PySem.Spec PySem.Calls PySem.W PyProof.Rows
set_option maxRecDepth 100000
set_option maxHeartbeats 400000
section
variable {news : List (Addr × Obj)} {ca cd ln pa fd : Nat} {n c : Nat} {h1 : Int} {x1 k1 : Tok} {mx : Int} {p q : Str}
theorem nd_cons {x : Addr} {o : Obj} {l : List (Addr × Obj)} (nd : (l.map (·.1)).Nodup) (h : ∀ y ∈ l, @LT.lt Nat _ y.1 x) : (((x, o) :: l).map (·.1)).Nodup := by
  rw [List.map_cons, List.nodup_cons]
  refine ⟨fun hm => ?_, nd⟩
  obtain ⟨y, hy, e⟩ := List.mem_map.mp hm
  have := h y hy
  rw [e] at this
  exact Nat.lt_irrefl _ this
theorem lt_cons {x y : Nat} {o : Obj} {l : List (Addr × Obj)} (h : ∀ z ∈ l, @LT.lt Nat _ z.1 x) (hxy : @LT.lt Nat _ x y) : ∀ z ∈ ((x, o) : Addr × Obj) :: l, @LT.lt Nat _ z.1 y := fun z hz => by
  rcases List.mem_cons.mp hz with rfl | hz
  · exact hxy
  · exact Nat.lt_trans (h z hz) hxy
theorem mkP {a1 a2 a3 a4 a5 a6 : Int} {t1 t2 t3 t4 t5 t6 u1 u2 u3 u4 : Tok} (nd : (news.map (·.1)).Nodup) (T1 : ∃ ps, (140, tableObj ps) ∈ news ∧ TabOk pos1 ps) (T2 : ∃ ps, (147, tableObj ps) ∈ news ∧ TabOk pos2 ps)
    (l0 : ∀ y ∈ news, @LT.lt Nat _ y.1 fd) (l1 : @LT.lt Nat _ fd pa) (l2 : @LT.lt Nat _ pa ln) (l3 : @LT.lt Nat _ ln cd) (l4 : @LT.lt Nat _ cd ca) (hp : p.length ≤ 1000) (hq : q.length ≤ 1000) :
    AccL ((ca, accObj cd #[] n) :: (cd, iniObj h1 x1 k1) :: (ln, listOf #[] c) :: (pa, instObj 94 fd) :: (fd, fmtObj mx ln ca a1 a2 a3 a4 a5 a6 t1 t2 t3 t4 t5 t6 u1 u2 u3 u4) :: news) ca cd #[] p q ∧
    FmtL ((ca, accObj cd #[] n) :: (cd, iniObj h1 x1 k1) :: (ln, listOf #[] c) :: (pa, instObj 94 fd) :: (fd, fmtObj mx ln ca a1 a2 a3 a4 a5 a6 t1 t2 t3 t4 t5 t6 u1 u2 u3 u4) :: news) pa fd ca ln mx [] := by
  obtain ⟨ps1, m1, k1'⟩ := T1
  obtain ⟨ps2, m2, k2'⟩ := T2
  have L1 := lt_cons (o := fmtObj mx ln ca a1 a2 a3 a4 a5 a6 t1 t2 t3 t4 t5 t6 u1 u2 u3 u4) l0 l1
  have L2 := lt_cons (o := instObj 94 fd) L1 l2
  have L3 := lt_cons (o := listOf #[] c) L2 l3
  have L4 := lt_cons (o := iniObj h1 x1 k1) L3 l4
  refine ⟨⟨nd_cons (nd_cons (nd_cons (nd_cons (nd_cons nd l0) L1) L2) L3) L4, ⟨n, .head _⟩, ⟨h1, x1, k1, .tail _ (.head _)⟩, ⟨ps1, .tail _ (.tail _ (.tail _ (.tail _ (.tail _ m1)))), k1'⟩, ⟨ps2, .tail _ (.tail _ (.tail _ (.tail _ (.tail _ m2)))), k2'⟩, words_nil, by simp, hp, hq⟩,
    ⟨.tail _ (.tail _ (.tail _ (.head _))), ⟨a1, a2, a3, a4, a5, a6, t1, t2, t3, t4, t5, t6, u1, u2, u3, u4, .tail _ (.tail _ (.tail _ (.tail _ (.head _))))⟩, ⟨#[], c, .tail _ (.tail _ (.head _)), .nil⟩, by simp⟩⟩
end
noncomputable def full (t i : Nat) : Nat := (i - 1) / t
noncomputable def cnt (t i : Nat) : Nat := i - t * full t i
theorem cnt_le {t i : Nat} (ht : 1 ≤ t) : cnt t i ≤ t := by
  unfold cnt full
  have := Nat.div_add_mod (i - 1) t
  have := Nat.mod_lt (i - 1) ht
  (first | lia | omega)
theorem cnt_pos {t i : Nat} (hi : 1 ≤ i) : 1 ≤ cnt t i := by
  unfold cnt full
  have := Nat.div_mul_le_self (i - 1) t
  rw [Nat.mul_comm] at this
  (first | lia | omega)
theorem step_no {t i : Nat} (ht : 1 ≤ t) (h : cnt t i < t) : full t (i + 1) = full t i ∧ cnt t (i + 1) = cnt t i + 1 := by
  have hf : full t (i + 1) = full t i := by
    unfold cnt full at *
    rw [Nat.add_sub_cancel]
    rcases Nat.eq_zero_or_pos i with rfl | hp
    · simp
    · have h1 := Nat.div_mul_le_self (i - 1) t
      rw [Nat.mul_comm] at h1
      refine (Nat.div_eq_of_lt_le (by rw [Nat.mul_comm]; (first | lia | omega)) (by rw [Nat.add_mul, Nat.mul_comm]; (first | lia | omega)))
  refine ⟨hf, ?_⟩
  unfold cnt
  rw [hf]
  have h1 := Nat.div_mul_le_self (i - 1) t
  rw [Nat.mul_comm] at h1
  unfold full
  (first | lia | omega)
theorem step_yes {t i : Nat} (ht : 1 ≤ t) (hi : 1 ≤ i) (h : cnt t i = t) : full t (i + 1) = full t i + 1 ∧ cnt t (i + 1) = 1 := by
  have h1 := Nat.div_mul_le_self (i - 1) t
  rw [Nat.mul_comm] at h1
  have hf : full t (i + 1) = full t i + 1 := by
    unfold cnt full at *
    rw [Nat.add_sub_cancel]
    have hi' : i = t * ((i - 1) / t + 1) := by rw [Nat.mul_add]; (first | lia | omega)
    conv => lhs; rw [hi']
    exact Nat.mul_div_cancel_left _ ht
  refine ⟨hf, ?_⟩
  unfold cnt at *
  rw [hf, Nat.mul_add]
  (first | lia | omega)
end
section
open PySem PySem.Spec PySem.Calls PySem.W PyProof.Rows
set_option maxRecDepth 100000
set_option maxHeartbeats 400000
section
variable {news news' : List (Addr × Obj)} {ca cd ln pa fd it : Addr} {its : Array Value} {o : Obj} {c : String} {mx : Int} {p q : Str} {lines : List Str}
theorem nd_add {l : List (Addr × Obj)} (nd : (l.map (·.1)).Nodup) (h : ∀ y ∈ l, y.1 ≠ it) : (((it, o) :: l).map (·.1)).Nodup := by
  rw [List.map_cons, List.nodup_cons]
  refine ⟨fun hm => ?_, nd⟩
  obtain ⟨y, hy, e⟩ := List.mem_map.mp hm
  exact h y hy e
theorem AccL.add (A : AccL news ca cd its p q) (h : ∀ y ∈ news, y.1 ≠ it) : AccL ((it, o) :: news) ca cd its p q := by
  (refine AccL.elim A ?_; intro nd n0 ha h1' x1' x2' hcd ps1 t1 k1 ps2 t2 k2 W hz hp hq)
  exact ⟨nd_add nd h, ⟨n0, .tail _ ha⟩, ⟨h1', x1', x2', .tail _ hcd⟩, ⟨ps1, .tail _ t1, k1⟩, ⟨ps2, .tail _ t2, k2⟩, W.mono fun T ka kb hm => .tail _ hm, hz, hp, hq⟩
theorem FmtL.add (M : FmtL news pa fd ca ln mx lines) {e : Addr × Obj} : FmtL (e :: news) pa fd ca ln mx lines := by
  (refine FmtL.elim M ?_; intro hpa a1 a2 a3 a4 a5 a6 s1 s2 s3 s4 s5 s6 u1 u2 u3 u4  hfd vs c hln hS hzl)
  exact ⟨.tail _ hpa, ⟨a1, a2, a3, a4, a5, a6, s1, s2, s3, s4, s5, s6, u1, u2, u3, u4, .tail _ hfd⟩, ⟨vs, c, .tail _ hln, hS⟩, hzl⟩
theorem AccL.drop (A : AccL news ca cd its p q) (hm : (it, o) ∈ news) (hc : o.cls = .type c) (h1 : c ≠ "tuple") (h2 : c ≠ "dict") : AccL (dropL it news) ca cd its p q := by
  (refine AccL.elim A ?_; intro nd n0 ha h1' x1' x2' hcd ps1 t1 k1 ps2 t2 k2 W hz hp hq)
  have ne : ∀ {x : Addr} {o' : Obj}, (x, o') ∈ news → o'.cls ≠ o.cls → x ≠ it := fun hx hn => nd_ne nd hx hm (cls_ne hn)
  exact ⟨dropL_nd nd, ⟨n0, dropL_mem ha (ne ha (by rw [hc]; simp))⟩, ⟨h1', x1', x2', dropL_mem hcd (ne hcd (by rw [hc]; simpa using Ne.symm h2))⟩, ⟨ps1, dropL_mem t1 (ne t1 (by rw [hc]; simp)), k1⟩, ⟨ps2, dropL_mem t2 (ne t2 (by rw [hc]; simp)), k2⟩,
    W.mono fun T ka kb hx => dropL_mem hx (ne hx (by rw [hc]; simpa using Ne.symm h1)), hz, hp, hq⟩
theorem FmtL.drop (nd : (news.map (·.1)).Nodup) (M : FmtL news pa fd ca ln mx lines) (hm : (it, o) ∈ news) (hc : o.cls = .type c) (h1 : c ≠ "list") (h2 : c ≠ "dict") : FmtL (dropL it news) pa fd ca ln mx lines := by
  (refine FmtL.elim M ?_; intro hpa a1 a2 a3 a4 a5 a6 s1 s2 s3 s4 s5 s6 u1 u2 u3 u4  hfd vs c' hln hS hzl)
  have ne : ∀ {x : Addr} {o' : Obj}, (x, o') ∈ news → o'.cls ≠ o.cls → x ≠ it := fun hx hn => nd_ne nd hx hm (cls_ne hn)
  exact ⟨dropL_mem hpa (ne hpa (by rw [hc]; simp)), ⟨a1, a2, a3, a4, a5, a6, s1, s2, s3, s4, s5, s6, u1, u2, u3, u4, dropL_mem hfd (ne hfd (by rw [hc]; simpa using Ne.symm h2))⟩, ⟨vs, c', dropL_mem hln (ne hln (by rw [hc]; simpa using Ne.symm h1)), hS⟩, hzl⟩
theorem KeepP.itr (A : AccL news ca cd its p q) (M : FmtL news pa fd ca ln mx lines) (K : KeepP ca cd ln news news') (hm : (it, o) ∈ news) (hc : o.cls = .type c) (h1 : c ≠ "tuple") (h2 : c ≠ "dict") (h3 : c ≠ "list") : (it, o) ∈ news' := by
  (refine AccL.elim A ?_; intro nd n0 ha h1' x1' x2' hcd ps1 t1 k1 ps2 t2 k2 W hz hp hq)
  obtain ⟨vs, c', hln, hS⟩ := M.hln
  have ne : ∀ {x : Addr} {o' : Obj}, (x, o') ∈ news → o.cls ≠ o'.cls → it ≠ x := fun hx hn => nd_ne nd hm hx (cls_ne hn)
  exact K _ hm (ne ha (by rw [hc]; simp)) (ne hcd (by rw [hc]; simpa using h2)) (ne t1 (by rw [hc]; simp)) (ne t2 (by rw [hc]; simp)) (ne hln (by rw [hc]; simpa using h3))
theorem KeepP.itr' {base : List (Addr × Obj)} (K₀ : KeepP ca cd ln base news) (K : KeepP ca cd ln ((it, o) :: news) news') (h : ∀ y ∈ base, @LT.lt Nat _ y.1 it) : KeepP ca cd ln base (dropL it news') := fun y hy a b c d e =>
  dropL_mem (K y (.tail _ (K₀ y hy a b c d e)) a b c d e) (Nat.ne_of_lt (h y hy))
end
noncomputable abbrev SPC : Str := Str.ofString " "
noncomputable def rowStr (q : Str) (n : Nat) : Str := Txt.join (Str.ofString "") (List.replicate n (SPC ++ q))
noncomputable def rowsOf1 (t r : Nat) : List Nat := List.replicate (r / t) t ++ [r % t + 1]
noncomputable def rowsL (t : Nat) (rs : List Nat) : List Nat := rs.flatMap (rowsOf1 t)
noncomputable def pageL (q : Str) (t : Nat) (rs : List Nat) : Str := Txt.join (Str.ofString "/") ((rowsL t rs).map (rowStr q))
structure WordOk (q : Str) : Prop where
  h1 : 1 ≤ q.length
  h6 : q.length ≤ 6
  hs : PyData.strOk q = true
  hne : q ≠ Str.ofString ""
  hsp : ∀ k, 1 ≤ k → Txt.isspace (Txt.join (Str.ofString "") (List.replicate k (SPC ++ q))) = false
theorem full_end {t r : Nat} (ht : 1 ≤ t) : full t (r + 1) = r / t ∧ cnt t (r + 1) = r % t + 1 := by
  have h1 : full t (r + 1) = r / t := by unfold full; rw [Nat.add_sub_cancel]
  refine ⟨h1, ?_⟩
  unfold cnt
  rw [h1]
  have := Nat.div_add_mod r t
  (first | lia | omega)
theorem mx_no {t n l : Nat} {sl : Int} (h : n ≤ t) : ((n * (1 + l) : Nat) : Int) ≤ (t : Int) * ((l : Int) + 1) + sl.fmod ((l : Int) + 1) := by
  have h1 : 0 ≤ sl.fmod ((l : Int) + 1) := Int.fmod_nonneg_of_pos _ (by (first | lia | omega))
  have h2 : n * (1 + l) ≤ t * (l + 1) := by rw [Nat.add_comm 1 l]; exact Nat.mul_le_mul_right _ h
  have h3 : ((t * (l + 1) : Nat) : Int) = (t : Int) * ((l : Int) + 1) := by simp
  (first | lia | omega)
theorem mx_yes {t l : Nat} {sl : Int} : (t : Int) * ((l : Int) + 1) + sl.fmod ((l : Int) + 1) < (((t + 1) * (1 + l) : Nat) : Int) := by
  have h1 : sl.fmod ((l : Int) + 1) < (l : Int) + 1 := Int.fmod_lt_of_pos _ (by (first | lia | omega))
  have h2 : (t + 1) * (1 + l) = t * (l + 1) + (l + 1) := by rw [Nat.add_comm 1 l, Nat.add_mul, Nat.one_mul]
  have h3 : ((t * (l + 1) : Nat) : Int) = (t : Int) * ((l : Int) + 1) := by simp
  (first | lia | omega)
theorem rowsL_len {t : Nat} {rs : List Nat} (h : ∀ r ∈ rs, r ≤ 4) : (rowsL t rs).length ≤ 5 * rs.length := by
  unfold rowsL
  induction rs with
  | nil => simp
  | cons r l ih =>
    have h1 := ih fun x hx => h x (.tail _ hx)
    have h2 := h r (.head _)
    have h3 : r / t ≤ r := Nat.div_le_self r t
    simp only [List.flatMap_cons, List.length_append, List.length_cons, rowsOf1, List.length_replicate, List.length_nil]
    (first | lia | omega)
theorem rowsL_snoc {t : Nat} {rs : List Nat} {j : Nat} (h : j < rs.length) : rowsL t (rs.take (j + 1)) = rowsL t (rs.take j) ++ rowsOf1 t rs[j] := by
  unfold rowsL
  rw [List.take_add_one, List.getElem?_eq_getElem h, List.flatMap_append]
  simp
theorem rowsL_le {t : Nat} {rs : List Nat} (ht : t ≤ 5) (ht1 : 1 ≤ t) : ∀ n ∈ rowsL t rs, n ≤ 5 := by
  intro n hn
  unfold rowsL rowsOf1 at hn
  obtain ⟨r, -, h⟩ := List.mem_flatMap.mp hn
  rcases List.mem_append.mp h with h | h
  · rw [List.mem_replicate] at h; (first | lia | omega)
  · have := List.mem_singleton.mp h
    have := Nat.mod_lt r ht1
    (first | lia | omega)
inductive EscTo : Str → Str → Prop
  | no (x : Str) (e0 : hasS x (Str.ofString "&") = false) (e1 : hasS x (Str.ofString "<") = false) (e2 : hasS x (Str.ofString ">") = false) (e3 : hasS x (Str.ofString "\"") = false) (e4 : hasS x (Str.ofString "\r") = false) (e5 : hasS x (Str.ofString "\n") = false) (e6 : hasS x (Str.ofString "\t") = false) : EscTo x x
  | amp (x : Str) (e0 : hasS x (Str.ofString "&") = true) (e1 : hasS (Txt.replace x (Str.ofString "&") (Str.ofString "&amp;")) (Str.ofString "<") = false) (e2 : hasS (Txt.replace x (Str.ofString "&") (Str.ofString "&amp;")) (Str.ofString ">") = false) (e3 : hasS (Txt.replace x (Str.ofString "&") (Str.ofString "&amp;")) (Str.ofString "\"") = false) (e4 : hasS (Txt.replace x (Str.ofString "&") (Str.ofString "&amp;")) (Str.ofString "\r") = false) (e5 : hasS (Txt.replace x (Str.ofString "&") (Str.ofString "&amp;")) (Str.ofString "\n") = false) (e6 : hasS (Txt.replace x (Str.ofString "&") (Str.ofString "&amp;")) (Str.ofString "\t") = false) (hb : x.length + (x.length + 1) * (Str.ofString "&amp;").length ≤ 16777216) : EscTo x (Txt.replace x (Str.ofString "&") (Str.ofString "&amp;"))
  | lt (x : Str) (e0 : hasS x (Str.ofString "&") = false) (e1 : hasS x (Str.ofString "<") = true) (e2 : hasS (Txt.replace x (Str.ofString "<") (Str.ofString "&lt;")) (Str.ofString ">") = false) (e3 : hasS (Txt.replace x (Str.ofString "<") (Str.ofString "&lt;")) (Str.ofString "\"") = false) (e4 : hasS (Txt.replace x (Str.ofString "<") (Str.ofString "&lt;")) (Str.ofString "\r") = false) (e5 : hasS (Txt.replace x (Str.ofString "<") (Str.ofString "&lt;")) (Str.ofString "\n") = false) (e6 : hasS (Txt.replace x (Str.ofString "<") (Str.ofString "&lt;")) (Str.ofString "\t") = false) (hb : x.length + (x.length + 1) * (Str.ofString "&lt;").length ≤ 16777216) : EscTo x (Txt.replace x (Str.ofString "<") (Str.ofString "&lt;"))
  | gt (x : Str) (e0 : hasS x (Str.ofString "&") = false) (e1 : hasS x (Str.ofString "<") = false) (e2 : hasS x (Str.ofString ">") = true) (e3 : hasS (Txt.replace x (Str.ofString ">") (Str.ofString "&gt;")) (Str.ofString "\"") = false) (e4 : hasS (Txt.replace x (Str.ofString ">") (Str.ofString "&gt;")) (Str.ofString "\r") = false) (e5 : hasS (Txt.replace x (Str.ofString ">") (Str.ofString "&gt;")) (Str.ofString "\n") = false) (e6 : hasS (Txt.replace x (Str.ofString ">") (Str.ofString "&gt;")) (Str.ofString "\t") = false) (hb : x.length + (x.length + 1) * (Str.ofString "&gt;").length ≤ 16777216) : EscTo x (Txt.replace x (Str.ofString ">") (Str.ofString "&gt;"))
  | quot (x : Str) (e0 : hasS x (Str.ofString "&") = false) (e1 : hasS x (Str.ofString "<") = false) (e2 : hasS x (Str.ofString ">") = false) (e3 : hasS x (Str.ofString "\"") = true) (e4 : hasS (Txt.replace x (Str.ofString "\"") (Str.ofString "&quot;")) (Str.ofString "\r") = false) (e5 : hasS (Txt.replace x (Str.ofString "\"") (Str.ofString "&quot;")) (Str.ofString "\n") = false) (e6 : hasS (Txt.replace x (Str.ofString "\"") (Str.ofString "&quot;")) (Str.ofString "\t") = false) (hb : x.length + (x.length + 1) * (Str.ofString "&quot;").length ≤ 16777216) : EscTo x (Txt.replace x (Str.ofString "\"") (Str.ofString "&quot;"))
theorem str_ext {x y : Str} (h : x.cps.toList = y.cps.toList) : x = y := by
  obtain ⟨⟨a⟩⟩ := x
  obtain ⟨⟨b⟩⟩ := y
  simp only at h
  rw [h]
theorem cps_app (x y : Str) : (x ++ y).cps.toList = x.cps.toList ++ y.cps.toList := by rw [Str.cps_append, Array.toList_append]
theorem hasS_one (x : Str) (c : Nat) : hasS x ⟨#[c]⟩ = decide (c ∈ x.cps.toList) := StrLaws.found_one x c
noncomputable def rep (c : Nat) (z : List Nat) (l : List Nat) : List Nat := l.flatMap fun k => if k = c then z else [k]
theorem rep_app (c : Nat) (z a b : List Nat) : rep c z (a ++ b) = rep c z a ++ rep c z b := by simp [rep]
theorem rep_free {c : Nat} {z : List Nat} : ∀ {l : List Nat}, c ∉ l → rep c z l = l
  | [], _ => rfl
  | k :: r, h => by
    have h1 : ¬ k = c := fun e => h (e ▸ List.mem_cons_self)
    have h2 := rep_free (c := c) (z := z) (l := r) fun m => h (List.mem_cons_of_mem _ m)
    unfold rep at h2 ⊢
    rw [List.flatMap_cons, if_neg h1, h2]
    rfl
theorem rep_one (c : Nat) (z : List Nat) : rep c z [c] = z := by simp [rep]
theorem join_two (sep x y : Str) (r : List Str) : (Str.join sep (x :: y :: r)).cps.toList = x.cps.toList ++ sep.cps.toList ++ (Str.join sep (y :: r)).cps.toList := by
  show (x ++ sep ++ Str.join sep (y :: r)).cps.toList = _
  rw [cps_app, cps_app]
theorem rep_parts (c : Nat) (z : Str) : ∀ parts : List Str, (∀ p ∈ parts, c ∉ p.cps.toList) → rep c z.cps.toList (Str.join ⟨#[c]⟩ parts).cps.toList = (Str.join z parts).cps.toList
  | [], _ => rfl
  | [p], h => rep_free (h p (List.mem_singleton.mpr rfl))
  | p :: q :: r, h => by
    have ih := rep_parts c z (q :: r) fun a ha => h a (List.mem_cons_of_mem _ ha)
    rw [join_two, join_two, rep_app, rep_app, ih, rep_free (h p List.mem_cons_self)]
    show _ ++ rep c z.cps.toList [c] ++ _ = _
    rw [rep_one]
theorem replace_rep (x z : Str) (c : Nat) : (Txt.replace x ⟨#[c]⟩ z).cps.toList = rep c z.cps.toList x.cps.toList := by
  rw [StrLaws.replace_one, ← rep_parts c z _ (StrLaws.split_free x c), StrLaws.join_split]
theorem rep_join (c : Nat) (z : List Nat) (sep : Str) (hs : c ∉ sep.cps.toList) (g : Str → Str) (hg : ∀ x, (g x).cps.toList = rep c z x.cps.toList) : ∀ l : List Str, rep c z (Str.join sep l).cps.toList = (Str.join sep (l.map g)).cps.toList
  | [] => rfl
  | [p] => (hg p).symm
  | p :: q :: r => by
    have ih := rep_join c z sep hs g hg (q :: r)
    rw [join_two, rep_app, rep_app, ih, rep_free hs, ← hg p]
    exact (join_two sep (g p) (g q) (r.map g)).symm
theorem txt_join (sep : Str) (l : List Str) : Txt.join sep l = Str.join sep l := StrLaws.glued_eq_join sep l
noncomputable def repS (c : Nat) (z : List Nat) (x : Str) : Str := ⟨(rep c z x.cps.toList).toArray⟩
theorem repS_cps (c : Nat) (z : List Nat) (x : Str) : (repS c z x).cps.toList = rep c z x.cps.toList := rfl
theorem page_rep (c : Nat) (z : Str) (t : Nat) (rs : List Nat) (h1 : c ≠ 32) (h2 : c ≠ 47) : Txt.replace (pageL ⟨#[c]⟩ t rs) ⟨#[c]⟩ z = pageL z t rs := by
  apply str_ext
  rw [replace_rep]
  have e1 : ∀ n, repS c z.cps.toList (rowStr ⟨#[c]⟩ n) = rowStr z n := fun n => by
    apply str_ext
    rw [repS_cps]
    unfold rowStr
    rw [txt_join, rep_join c z.cps.toList (Str.ofString "") (by simp [show (Str.ofString "").cps.toList = [] by decide]) (repS c z.cps.toList) (fun x => repS_cps _ _ _), List.map_replicate, txt_join]
    congr 3
    congr 1
    apply str_ext
    rw [repS_cps, cps_app, cps_app, rep_app, rep_free (by simpa [show SPC.cps.toList = [32] by decide] using h1)]
    exact congrArg _ (rep_one c _)
  unfold pageL
  rw [txt_join, rep_join c z.cps.toList (Str.ofString "/") (by simpa [show (Str.ofString "/").cps.toList = [47] by decide] using h2) (repS c z.cps.toList) (fun x => repS_cps _ _ _), txt_join, List.map_map]
  congr 3
  exact List.map_congr_left fun n _ => e1 n
theorem join_mem {sep : Str} {d : Nat} : ∀ {l : List Str}, d ∈ (Str.join sep l).cps.toList → d ∈ sep.cps.toList ∨ ∃ x ∈ l, d ∈ x.cps.toList
  | [], h => by cases h
  | [p], h => .inr ⟨p, .head _, h⟩
  | p :: q :: r, h => by
    rw [join_two] at h
    rcases List.mem_append.mp h with h | h
    · rcases List.mem_append.mp h with h | h
      · exact .inr ⟨p, .head _, h⟩
      · exact .inl h
    · rcases join_mem h with h | ⟨x, hx, h⟩
      · exact .inl h
      · exact .inr ⟨x, .tail _ hx, h⟩
theorem mem_join {sep : Str} {d : Nat} {x : Str} (hd : d ∈ x.cps.toList) : ∀ {l : List Str}, x ∈ l → d ∈ (Str.join sep l).cps.toList
  | [], h => by cases h
  | [p], h => by rw [List.mem_singleton.mp h] at hd; exact hd
  | p :: q :: r, h => by
    rw [join_two]
    rcases List.mem_cons.mp h with rfl | h
    · exact List.mem_append_left _ (List.mem_append_left _ hd)
    · exact List.mem_append_right _ (mem_join hd h)
theorem page_mem {q : Str} {t d : Nat} {rs : List Nat} (h : d ∈ (pageL q t rs).cps.toList) : d = 32 ∨ d = 47 ∨ d ∈ q.cps.toList := by
  unfold pageL at h
  rw [txt_join] at h
  rcases join_mem h with h | ⟨x, hx, h⟩
  · exact .inr (.inl (by simpa [show (Str.ofString "/").cps.toList = [47] by decide] using h))
  · obtain ⟨n, -, rfl⟩ := List.mem_map.mp hx
    unfold rowStr at h
    rw [txt_join] at h
    rcases join_mem h with h | ⟨y, hy, h⟩
    · rw [show (Str.ofString "").cps.toList = [] by decide] at h; cases h
    · rw [(List.mem_replicate.mp hy).2, cps_app] at h
      rcases List.mem_append.mp h with h | h
      · exact .inl (by simpa [show SPC.cps.toList = [32] by decide] using h)
      · exact .inr (.inr h)
theorem mem_page {q : Str} {t d : Nat} {r : Nat} {rs : List Nat} (h : d ∈ q.cps.toList) : d ∈ (pageL q t (r :: rs)).cps.toList := by
  have h1 : r % t + 1 ∈ rowsL t (r :: rs) := by unfold rowsL rowsOf1; simp
  have h2 : d ∈ (rowStr q (r % t + 1)).cps.toList := by
    unfold rowStr
    rw [txt_join]
    exact mem_join (x := SPC ++ q) (by rw [cps_app]; exact List.mem_append_right _ h) (by rw [List.mem_replicate]; exact ⟨by (first | lia | omega), rfl⟩)
  unfold pageL
  rw [txt_join]
  exact mem_join h2 (List.mem_map_of_mem h1)
theorem hasS_no {x : Str} {c : Nat} {y : Str} (hy : y = ⟨#[c]⟩) (h : c ∉ x.cps.toList) : hasS x y = false := by rw [hy, hasS_one]; simpa using h
theorem hasS_yes {x : Str} {c : Nat} {y : Str} (hy : y = ⟨#[c]⟩) (h : c ∈ x.cps.toList) : hasS x y = true := by rw [hy, hasS_one]; simpa using h
theorem page_no {q : Str} {t c : Nat} {rs : List Nat} {y : Str} (hy : y = ⟨#[c]⟩) (h : c ∉ 32 :: 47 :: q.cps.toList) : hasS (pageL q t rs) y = false := hasS_no hy fun z => h (by rcases page_mem z with rfl | rfl | z; exact .head _; exact .tail _ (.head _); exact .tail _ (.tail _ z))
theorem rowStr_len {q : Str} (hq : q.length ≤ 6) {n : Nat} (hn : n ≤ 5) : (rowStr q n).length ≤ 35 := by
  have h0 : (Str.ofString "").length = 0 := by decide
  have h1 : SPC.length = 1 := by decide
  unfold rowStr
  rw [txt_join]
  have e : n = 0 ∨ n = 1 ∨ n = 2 ∨ n = 3 ∨ n = 4 ∨ n = 5 := by (first | lia | omega)
  rcases e with rfl | rfl | rfl | rfl | rfl | rfl <;> simp only [List.replicate, Str.join, Str.length_append, h0, h1] <;> first | (first | lia | omega) | (show (0 : Nat) ≤ 35; (first | lia | omega))
theorem page_len {q : Str} (hq : q.length ≤ 6) {t : Nat} {rs : List Nat} (ht1 : 1 ≤ t) (ht : t ≤ 5) (hr : ∀ r ∈ rs, r ≤ 4) (hl : rs.length ≤ 2) : (pageL q t rs).length ≤ 1000 := by
  have h0 : (Str.ofString "/").length = 1 := by decide
  have h2 : (rowsL t rs).length ≤ 10 := Nat.le_trans (rowsL_len hr) (by (first | lia | omega))
  have h3 := rowsL_le (rs := rs) ht ht1
  have key : ∀ l : List Str, (∀ x ∈ l, x.length ≤ 35) → (Str.join (Str.ofString "/") l).length ≤ l.length * 36 := by
    intro l
    induction l with
    | nil => intro _; exact Nat.le_refl 0
    | cons x l ih =>
      intro h
      have h4 := h x (.head _)
      cases l with
      | nil => show x.length ≤ _; simp; (first | lia | omega)
      | cons y r =>
        have h5 := ih fun z hz => h z (.tail _ hz)
        show (x ++ Str.ofString "/" ++ Str.join (Str.ofString "/") (y :: r)).length ≤ _
        rw [Str.length_append, Str.length_append, h0]
        simp only [List.length_cons] at h5 ⊢
        (first | lia | omega)
  unfold pageL
  rw [txt_join]
  refine Nat.le_trans (key _ fun x hx => ?_) (by rw [List.length_map]; (first | lia | omega))
  obtain ⟨n, hn, rfl⟩ := List.mem_map.mp hx
  exact rowStr_len hq (h3 n hn)
noncomputable def signs : List (Str × Str) := [(Str.ofString "&", Str.ofString "&amp;"), (Str.ofString "<", Str.ofString "&lt;"), (Str.ofString ">", Str.ofString "&gt;"), (Str.ofString "\"", Str.ofString "&quot;")]
theorem esc_sign : ∀ s ∈ signs, EscTo s.1 s.2 := by
  intro s hs
  simp only [signs, List.mem_cons, List.not_mem_nil, or_false] at hs
  rcases hs with rfl | rfl | rfl | rfl
  · have h : Txt.replace (Str.ofString "&") (Str.ofString "&") (Str.ofString "&amp;") = (Str.ofString "&amp;") := by
      apply str_ext
      rw [show (Txt.replace (Str.ofString "&") (Str.ofString "&") (Str.ofString "&amp;")) = Txt.replace (Str.ofString "&") ⟨#[38]⟩ (Str.ofString "&amp;") from rfl, replace_rep]
      decide +kernel
    have := EscTo.amp (Str.ofString "&") (hasS_yes (c := 38) (by decide +kernel) (by decide +kernel)) (by rw [h]; exact hasS_no (c := 60) (by decide +kernel) (by decide +kernel)) (by rw [h]; exact hasS_no (c := 62) (by decide +kernel) (by decide +kernel)) (by rw [h]; exact hasS_no (c := 34) (by decide +kernel) (by decide +kernel)) (by rw [h]; exact hasS_no (c := 13) (by decide +kernel) (by decide +kernel)) (by rw [h]; exact hasS_no (c := 10) (by decide +kernel) (by decide +kernel)) (by rw [h]; exact hasS_no (c := 9) (by decide +kernel) (by decide +kernel)) (by decide +kernel)
    rw [h] at this
    exact this
  · have h : Txt.replace (Str.ofString "<") (Str.ofString "<") (Str.ofString "&lt;") = (Str.ofString "&lt;") := by
      apply str_ext
      rw [show (Txt.replace (Str.ofString "<") (Str.ofString "<") (Str.ofString "&lt;")) = Txt.replace (Str.ofString "<") ⟨#[60]⟩ (Str.ofString "&lt;") from rfl, replace_rep]
      decide +kernel
    have := EscTo.lt (Str.ofString "<") (hasS_no (c := 38) (by decide +kernel) (by decide +kernel)) (hasS_yes (c := 60) (by decide +kernel) (by decide +kernel)) (by rw [h]; exact hasS_no (c := 62) (by decide +kernel) (by decide +kernel)) (by rw [h]; exact hasS_no (c := 34) (by decide +kernel) (by decide +kernel)) (by rw [h]; exact hasS_no (c := 13) (by decide +kernel) (by decide +kernel)) (by rw [h]; exact hasS_no (c := 10) (by decide +kernel) (by decide +kernel)) (by rw [h]; exact hasS_no (c := 9) (by decide +kernel) (by decide +kernel)) (by decide +kernel)
    rw [h] at this
    exact this
  · have h : Txt.replace (Str.ofString ">") (Str.ofString ">") (Str.ofString "&gt;") = (Str.ofString "&gt;") := by
      apply str_ext
      rw [show (Txt.replace (Str.ofString ">") (Str.ofString ">") (Str.ofString "&gt;")) = Txt.replace (Str.ofString ">") ⟨#[62]⟩ (Str.ofString "&gt;") from rfl, replace_rep]
      decide +kernel
    have := EscTo.gt (Str.ofString ">") (hasS_no (c := 38) (by decide +kernel) (by decide +kernel)) (hasS_no (c := 60) (by decide +kernel) (by decide +kernel)) (hasS_yes (c := 62) (by decide +kernel) (by decide +kernel)) (by rw [h]; exact hasS_no (c := 34) (by decide +kernel) (by decide +kernel)) (by rw [h]; exact hasS_no (c := 13) (by decide +kernel) (by decide +kernel)) (by rw [h]; exact hasS_no (c := 10) (by decide +kernel) (by decide +kernel)) (by rw [h]; exact hasS_no (c := 9) (by decide +kernel) (by decide +kernel)) (by decide +kernel)
    rw [h] at this
    exact this
  · have h : Txt.replace (Str.ofString "\"") (Str.ofString "\"") (Str.ofString "&quot;") = (Str.ofString "&quot;") := by
      apply str_ext
      rw [show (Txt.replace (Str.ofString "\"") (Str.ofString "\"") (Str.ofString "&quot;")) = Txt.replace (Str.ofString "\"") ⟨#[34]⟩ (Str.ofString "&quot;") from rfl, replace_rep]
      decide +kernel
    have := EscTo.quot (Str.ofString "\"") (hasS_no (c := 38) (by decide +kernel) (by decide +kernel)) (hasS_no (c := 60) (by decide +kernel) (by decide +kernel)) (hasS_no (c := 62) (by decide +kernel) (by decide +kernel)) (hasS_yes (c := 34) (by decide +kernel) (by decide +kernel)) (by rw [h]; exact hasS_no (c := 13) (by decide +kernel) (by decide +kernel)) (by rw [h]; exact hasS_no (c := 10) (by decide +kernel) (by decide +kernel)) (by rw [h]; exact hasS_no (c := 9) (by decide +kernel) (by decide +kernel)) (by decide +kernel)
    rw [h] at this
    exact this
theorem esc_page {t : Nat} {rs : List Nat} (ht1 : 1 ≤ t) (ht : t ≤ 5) (hr : ∀ r ∈ rs, r ≤ 4) (hl : rs.length ≤ 2) : ∀ s ∈ signs, EscTo (pageL s.1 t rs) (pageL s.2 t rs) := by
  intro s hs
  cases rs with
  | nil =>
    have e : ∀ q, pageL q t [] = Str.ofString "" := fun q => rfl
    rw [e, e]
    exact .no _ (hasS_no (c := 38) (by decide +kernel) (by decide +kernel)) (hasS_no (c := 60) (by decide +kernel) (by decide +kernel)) (hasS_no (c := 62) (by decide +kernel) (by decide +kernel)) (hasS_no (c := 34) (by decide +kernel) (by decide +kernel)) (hasS_no (c := 13) (by decide +kernel) (by decide +kernel)) (hasS_no (c := 10) (by decide +kernel) (by decide +kernel)) (hasS_no (c := 9) (by decide +kernel) (by decide +kernel))
  | cons r rs =>
    simp only [signs, List.mem_cons, List.not_mem_nil, or_false] at hs
    rcases hs with rfl | rfl | rfl | rfl
    · have h : Txt.replace (pageL (Str.ofString "&") t (r :: rs)) (Str.ofString "&") (Str.ofString "&amp;") = pageL (Str.ofString "&amp;") t (r :: rs) := page_rep 38 _ t (r :: rs) (by decide) (by decide)
      have hb := page_len (q := (Str.ofString "&")) (by decide +kernel) ht1 ht hr hl
      have := EscTo.amp (pageL (Str.ofString "&") t (r :: rs)) (hasS_yes (c := 38) (by decide +kernel) (mem_page (by decide +kernel))) (by rw [h]; exact page_no (c := 60) (by decide +kernel) (by decide +kernel)) (by rw [h]; exact page_no (c := 62) (by decide +kernel) (by decide +kernel)) (by rw [h]; exact page_no (c := 34) (by decide +kernel) (by decide +kernel)) (by rw [h]; exact page_no (c := 13) (by decide +kernel) (by decide +kernel)) (by rw [h]; exact page_no (c := 10) (by decide +kernel) (by decide +kernel)) (by rw [h]; exact page_no (c := 9) (by decide +kernel) (by decide +kernel)) (Nat.le_trans (Nat.add_le_add hb (Nat.mul_le_mul (Nat.add_le_add_right hb 1) (show _ ≤ 10 by decide +kernel))) (by decide))
      rw [h] at this
      exact this
    · have h : Txt.replace (pageL (Str.ofString "<") t (r :: rs)) (Str.ofString "<") (Str.ofString "&lt;") = pageL (Str.ofString "&lt;") t (r :: rs) := page_rep 60 _ t (r :: rs) (by decide) (by decide)
      have hb := page_len (q := (Str.ofString "<")) (by decide +kernel) ht1 ht hr hl
      have := EscTo.lt (pageL (Str.ofString "<") t (r :: rs)) (page_no (c := 38) (by decide +kernel) (by decide +kernel)) (hasS_yes (c := 60) (by decide +kernel) (mem_page (by decide +kernel))) (by rw [h]; exact page_no (c := 62) (by decide +kernel) (by decide +kernel)) (by rw [h]; exact page_no (c := 34) (by decide +kernel) (by decide +kernel)) (by rw [h]; exact page_no (c := 13) (by decide +kernel) (by decide +kernel)) (by rw [h]; exact page_no (c := 10) (by decide +kernel) (by decide +kernel)) (by rw [h]; exact page_no (c := 9) (by decide +kernel) (by decide +kernel)) (Nat.le_trans (Nat.add_le_add hb (Nat.mul_le_mul (Nat.add_le_add_right hb 1) (show _ ≤ 10 by decide +kernel))) (by decide))
      rw [h] at this
      exact this
    · have h : Txt.replace (pageL (Str.ofString ">") t (r :: rs)) (Str.ofString ">") (Str.ofString "&gt;") = pageL (Str.ofString "&gt;") t (r :: rs) := page_rep 62 _ t (r :: rs) (by decide) (by decide)
      have hb := page_len (q := (Str.ofString ">")) (by decide +kernel) ht1 ht hr hl
      have := EscTo.gt (pageL (Str.ofString ">") t (r :: rs)) (page_no (c := 38) (by decide +kernel) (by decide +kernel)) (page_no (c := 60) (by decide +kernel) (by decide +kernel)) (hasS_yes (c := 62) (by decide +kernel) (mem_page (by decide +kernel))) (by rw [h]; exact page_no (c := 34) (by decide +kernel) (by decide +kernel)) (by rw [h]; exact page_no (c := 13) (by decide +kernel) (by decide +kernel)) (by rw [h]; exact page_no (c := 10) (by decide +kernel) (by decide +kernel)) (by rw [h]; exact page_no (c := 9) (by decide +kernel) (by decide +kernel)) (Nat.le_trans (Nat.add_le_add hb (Nat.mul_le_mul (Nat.add_le_add_right hb 1) (show _ ≤ 10 by decide +kernel))) (by decide))
      rw [h] at this
      exact this
    · have h : Txt.replace (pageL (Str.ofString "\"") t (r :: rs)) (Str.ofString "\"") (Str.ofString "&quot;") = pageL (Str.ofString "&quot;") t (r :: rs) := page_rep 34 _ t (r :: rs) (by decide) (by decide)
      have hb := page_len (q := (Str.ofString "\"")) (by decide +kernel) ht1 ht hr hl
      have := EscTo.quot (pageL (Str.ofString "\"") t (r :: rs)) (page_no (c := 38) (by decide +kernel) (by decide +kernel)) (page_no (c := 60) (by decide +kernel) (by decide +kernel)) (page_no (c := 62) (by decide +kernel) (by decide +kernel)) (hasS_yes (c := 34) (by decide +kernel) (mem_page (by decide +kernel))) (by rw [h]; exact page_no (c := 13) (by decide +kernel) (by decide +kernel)) (by rw [h]; exact page_no (c := 10) (by decide +kernel) (by decide +kernel)) (by rw [h]; exact page_no (c := 9) (by decide +kernel) (by decide +kernel)) (Nat.le_trans (Nat.add_le_add hb (Nat.mul_le_mul (Nat.add_le_add_right hb 1) (show _ ≤ 10 by decide +kernel))) (by decide))
      rw [h] at this
      exact this
theorem words_ok : ∀ s ∈ signs, WordOk s.1 ∧ WordOk s.2 := by
  have key : ∀ q : Str, (∃ d ∈ q.cps.toList, Unicode.isSpace d = false) → ∀ k, 1 ≤ k → Txt.isspace (Txt.join (Str.ofString "") (List.replicate k (SPC ++ q))) = false := by
    intro q ⟨d, hd, hs⟩ k hk
    have h1 : d ∈ (Txt.join (Str.ofString "") (List.replicate k (SPC ++ q))).cps.toList := by
      rw [txt_join]
      exact mem_join (x := SPC ++ q) (by rw [cps_app]; exact List.mem_append_right _ hd) (by rw [List.mem_replicate]; exact ⟨by (first | lia | omega), rfl⟩)
    unfold Txt.isspace
    have h2 : (Txt.join (Str.ofString "") (List.replicate k (SPC ++ q))).cps.all Unicode.isSpace = false := by
      rw [Array.all_eq_false]
      obtain ⟨i, hi, e⟩ := List.getElem_of_mem h1
      refine ⟨i, by simpa using hi, ?_⟩
      have e' : (Txt.join (Str.ofString "") (List.replicate k (SPC ++ q))).cps[i]'(by simpa using hi) = d := by simpa using e
      rw [e', hs]; exact Bool.false_ne_true
    rw [h2, Bool.and_false]
  intro s hs
  simp only [signs, List.mem_cons, List.not_mem_nil, or_false] at hs
  rcases hs with rfl | rfl | rfl | rfl <;> refine ⟨⟨by decide +kernel, by decide +kernel, by decide +kernel, by decide +kernel, key _ ?_⟩, ⟨by decide +kernel, by decide +kernel, by decide +kernel, by decide +kernel, key _ ?_⟩⟩
  · exact ⟨38, by decide +kernel, by decide +kernel⟩
  · exact ⟨38, by decide +kernel, by decide +kernel⟩
  · exact ⟨60, by decide +kernel, by decide +kernel⟩
  · exact ⟨38, by decide +kernel, by decide +kernel⟩
  · exact ⟨62, by decide +kernel, by decide +kernel⟩
  · exact ⟨38, by decide +kernel, by decide +kernel⟩
  · exact ⟨34, by decide +kernel, by decide +kernel⟩
  · exact ⟨38, by decide +kernel, by decide +kernel⟩
end
section
open PySem PySem.Spec PySem.Calls PySem.W PyProof.Rows
set_option maxRecDepth 100000
set_option maxHeartbeats 400000
structure TabsIn (news : List (Addr × Obj)) : Prop where
  nd : (news.map (·.1)).Nodup
  t1 : ∃ ps, (140, tableObj ps) ∈ news ∧ TabOk pos1 ps
  t2 : ∃ ps, (147, tableObj ps) ∈ news ∧ TabOk pos2 ps
noncomputable def KeepT (news news' : List (Addr × Obj)) : Prop := ∀ y ∈ news, y.1 ≠ 140 → y.1 ≠ 147 → y ∈ news'
theorem KeepT.rfl {n1 : List (Addr × Obj)} : KeepT n1 n1 := fun _ hy _ _ => hy
theorem KeepT.trans {n1 n2 n3 : List (Addr × Obj)} (K : KeepT n1 n2) (K' : KeepT n2 n3) : KeepT n1 n3 := fun y hy c d => K' y (K y hy c d) c d
theorem KeepT.cons {n1 n2 : List (Addr × Obj)} {e : Addr × Obj} (K : KeepT n1 n2) : KeepT n1 (e :: n2) := fun y hy c d => .tail _ (K y hy c d)
theorem KeepP.toT {ca cd ln : Addr} {news n1 n2 : List (Addr × Obj)} (K : KeepP ca cd ln n1 n2) (hs : ∀ y ∈ news, y ∈ n1) (h1 : ∀ y ∈ news, y.1 ≠ ca) (h2 : ∀ y ∈ news, y.1 ≠ cd) (h3 : ∀ y ∈ news, y.1 ≠ ln) : KeepT news n2 := fun y hy c d => K y (hs y hy) (h1 y hy) (h2 y hy) c d (h3 y hy)
theorem rowsL_pos {t : Nat} {rs : List Nat} (ht1 : 1 ≤ t) : ∀ n ∈ rowsL t rs, 1 ≤ n := by
  intro n hn
  unfold rowsL rowsOf1 at hn
  obtain ⟨r, -, h⟩ := List.mem_flatMap.mp hn
  rcases List.mem_append.mp h with h | h
  · rw [List.mem_replicate] at h; (first | lia | omega)
  · have := List.mem_singleton.mp h; (first | lia | omega)
theorem mx_yes2 {t l n : Nat} {sl : Int} (h : n = t + 1) : (t : Int) * ((l : Int) + 1) + sl.fmod ((l : Int) + 1) < ((n * (1 + l) : Nat) : Int) := by rw [h]; exact mx_yes
theorem size_up {k : Nat} {a : Int} (e : a = (k : Int)) : Builtin.Range.rangeSize 0 a 1 = (k : Int) := by
  subst e
  unfold Builtin.Range.rangeSize
  simp
  (first | lia | omega)
theorem small_up {k : Nat} {a : Int} (e : a = (k : Int)) (hk : k ≤ 1000) : Builtin.Range.small 0 a 1 = true := by
  unfold Builtin.Range.small
  rw [size_up e, e]
  simp [Builtin.Range.rangeFitsLong]
  (first | lia | omega)
theorem lines_ok {t : Nat} {rs : List Nat} {q : Str} (ht1 : 1 ≤ t) (ht : t ≤ 5) (hr : ∀ r ∈ rs, r ≤ 4) (hl : rs.length ≤ 2) (hq : q.length ≤ 6) : ((((rowsL t rs).map (rowStr q)).map (·.length)).sum + ((rowsL t rs).map (rowStr q)).length * 64 ≤ 16777216) := by
  have h2 : (rowsL t rs).length ≤ 10 := Nat.le_trans (rowsL_len hr) (by (first | lia | omega))
  have h3 := StrLaws.sumLen_le (B := 35) ((rowsL t rs).map (rowStr q)) fun x hx => by
    obtain ⟨n, hn, rfl⟩ := List.mem_map.mp hx
    exact rowStr_len hq (rowsL_le ht ht1 n hn)
  rw [List.length_map] at *
  (first | lia | omega)
noncomputable def IntsL (vs : Array Value) (rs : List Nat) : Prop := vs.size = rs.length ∧ ∀ i (h : i < rs.length), ∃ tk, vs[i]? = some (.int (rs[i] : Int) tk)
theorem lt_far {x y z : Nat} {l : List (Addr × Obj)} (h : ∀ p ∈ l, @LT.lt Nat _ p.1 x) (hx : x ≤ y) : ∀ p ∈ l, p.1 ≠ y := fun p hp e => by have := h p hp; rw [e] at this; (first | lia | omega)
structure LocF (m : Str → Option Value) (pa : Addr) (word : Str) (kw : Tok) (late : Bool) : Prop where
  p1 : m (Str.ofString "paper") = some (.ref pa)
  p2 : m (Str.ofString "word") = some (.str word kw)
  p3 : m (Str.ofString "late") = some (.bool late)
theorem LocF.upd {m : Str → Option Value} {pa : Addr} {word : Str} {kw : Tok} {late : Bool} {x : Str} {v : Value} (H : LocF m pa word kw late) (h1 : Str.ofString "paper" ≠ x) (h2 : Str.ofString "word" ≠ x) (h3 : Str.ofString "late" ≠ x) : LocF (updM m x v) pa word kw late :=
  ⟨(if_neg h1).trans H.p1, (if_neg h2).trans H.p2, (if_neg h3).trans H.p3⟩
theorem LocF.of {g h : Heap} {L' : Addr} {M : Str → Option Value} {pa : Addr} {word : Str} {kw : Tok} {late : Bool} (_F : Fr g L' h M) (H : LocF M pa word kw late) : LocF M pa word kw late := H
theorem open_paper {g h : Heap} {L' : Addr} {news : List (Addr × Obj)} {ca cd ln pa fd : Nat} {n c : Nat} {h1 : Int} {x1 k1 : Tok} {mx : Int} {q : Str} {a1 a2 a3 a4 a5 a6 : Int} {t1 t2 t3 t4 t5 t6 u1 u2 u3 u4 : Tok} (Tn : TabsIn news)
    (N : News g L' h ((ca, accObj cd #[] n) :: (cd, iniObj h1 x1 k1) :: (ln, listOf #[] c) :: (pa, instObj 94 fd) :: (fd, fmtObj mx ln ca a1 a2 a3 a4 a5 a6 t1 t2 t3 t4 t5 t6 u1 u2 u3 u4) :: news))
    (l0 : ∀ y ∈ news, @LT.lt Nat _ y.1 fd) (l1 : @LT.lt Nat _ fd pa) (l2 : @LT.lt Nat _ pa ln) (l3 : @LT.lt Nat _ ln cd) (l4 : @LT.lt Nat _ cd ca) (hq : q.length ≤ 1000) :
    ∃ base, News g L' h base ∧ AccL base ca cd #[] SPC q ∧ FmtL base pa fd ca ln mx [] ∧ (∀ y ∈ news, y ∈ base) ∧ (∀ y ∈ news, y.1 ≠ ca) ∧ (∀ y ∈ news, y.1 ≠ cd) ∧ (∀ y ∈ news, y.1 ≠ ln) := by
  obtain ⟨A, M⟩ := mkP (n := n) (c := c) (h1 := h1) (x1 := x1) (k1 := k1) (mx := mx) (p := SPC) (q := q) (a1 := a1) (a2 := a2) (a3 := a3) (a4 := a4) (a5 := a5) (a6 := a6) (t1 := t1) (t2 := t2) (t3 := t3) (t4 := t4) (t5 := t5) (t6 := t6) (u1 := u1) (u2 := u2) (u3 := u3) (u4 := u4) Tn.nd Tn.t1 Tn.t2 l0 l1 l2 l3 l4 (show SPC.length ≤ 1000 by decide) hq
  refine ⟨_, N, A, M, fun y hy => .tail _ (.tail _ (.tail _ (.tail _ (.tail _ hy)))), ?_, ?_, ?_⟩ <;> intro y hy e <;> have := l0 y hy <;> rw [e] at this <;> (first | lia | omega)
end
section
open PySem PySem.Spec PySem.Calls PySem.W PyProof.Rows
set_option maxRecDepth 100000
set_option maxHeartbeats 0
theorem esc_all : ∀ {w : World} {loose : List Str} {mean : ExcName → Option Value} {mg mb : Str → Option Value} {dp un : Nat} {gd : Option (List Code)} {cn : Str} {cs : Scope} {a : Addr} {ccd : Value} {cl : List (Str × Addr)} {outer : List Env} {A₀ : Around} {base h₀ : Heap} {L : Addr} {m : Str → Option Value} {s : Shared} {Q E : Value → Shared → Prop} {news : List (Addr × Obj)} {x y : Str} {k : Tok}
  (B : Below A₀ base outer h₀) (F : Fr h₀ L s.heap m) (X : (fr.heap_1 w.params).In h₀) (N : News h₀ L s.heap news) (T : Top topProg loose mean mg mb h₀) (hk : cs.kind = .function) (hdp : dp + 12 < recursionLimit) (hun : un + 160 < cLine) (he : EscTo x y) (hret : ∀ k₁ h₁ tk₁, Fr h₀ L h₁ m → News h₀ L h₁ news → Q (.str y k₁) { s with heap := h₁, toks := tk₁ }),
  wpAny (model PySem.Challenge.rw_wu0100_01.row.prog w) (ktrTop dp un gd cn cs L a ccd cl outer) (call (.ref 294) [.str x k]) Q E s := by
  intro w loose mean mg mb dp un gd cn cs a ccd cl outer A₀ base h₀ L m s Q E news x y k B F X N T hk hdp hun he hret
  cases he with
  | no e0 e1 e2 e3 e4 e5 e6 => exact esc_no B F X N T hk hdp hun e0 e1 e2 e3 e4 e5 e6 hret
  | amp e0 e1 e2 e3 e4 e5 e6 hb => exact esc_amp B F X N T hk hdp hun e0 e1 e2 e3 e4 e5 e6 hb hret
  | lt e0 e1 e2 e3 e4 e5 e6 hb => exact esc_lt B F X N T hk hdp hun e0 e1 e2 e3 e4 e5 e6 hb hret
  | gt e0 e1 e2 e3 e4 e5 e6 hb => exact esc_gt B F X N T hk hdp hun e0 e1 e2 e3 e4 e5 e6 hb hret
  | quot e0 e1 e2 e3 e4 e5 e6 hb => exact esc_quot B F X N T hk hdp hun e0 e1 e2 e3 e4 e5 e6 hb hret

theorem rows_S16_1 : True := by
  k_with_none
  w_top off
  k_with "z8" => ((try (case A => assumption)); (case B => k_asm); (case F => k_asm); (case X => k_asm); (case N => first | k_asm | exact cb_drop (by k_asm) (by intro p hp; repeat (first | exact hp | apply List.Mem.tail))); (case T => k_asm); (case hk => first | exact rfl | assumption); (case hdp => ktr_room); (case hun => ktr_units); (try (case G => assumption)))
  k_with "k_mem" => (assumption)
  k_with "k_ne" => (first | exact ne_mem1 (by with_reducible assumption) (by with_reducible assumption) | exact ne_mem2 (by with_reducible assumption) (by with_reducible assumption))
  k_with "execs cons" => (first | (k_here; k_gentoks) | ((try (rename Flow → Shared → Prop => qq; clear qq)); (try (rename Value → Shared → Prop => qq; clear qq)); refine wpAny_execs_cons ?_; (try dsimp only); k_fold))
  trivial

theorem rows_S16_2 : True := by
  k_with "zv" => ((repeat (first | (refine Eq.trans (ite_off ?_) ?_; focus decide) | (refine Eq.trans (upd_off ?_) ?_; focus decide))); first | with_reducible assumption | exact if_pos rfl | exact upd_on)
  k_with "k_updF" => (with_reducible assumption)
  k_with "k_inst" => (refine accI_news (by k_asm) (by k_mem) (by k_mem))
  k_with "getAttr ref" => (k_here; k_dflt (refine get_acc (by k_asm) (by k_asm) (by k_asm) (by k_mem) (by k_mem) (by k_is) (by k_is) (by k_is) (by k_get) (by k_handed) ?_; k_whole))
  k_with "getMethod ref" => (k_here; k_dflt (first | ((with_reducible show wpAny _ _ (getMethod (Value.ref _) (PySem.Str.ofString "append") _) _ _ _); refine method_acc_app (by k_asm) (by k_asm) (by k_asm) (by k_mem) (by k_mem) (by k_get) ?_; k_whole) | (refine method_acc_fn (by k_asm) (by k_asm) (by k_asm) (by k_mem) (by k_mem) (by k_is) (by k_is) (by k_get) ?_; k_whole) | ((with_reducible show wpAny _ _ (getMethod (Value.ref _) (PySem.Str.ofString "pop") _) _ _ _); refine sup_pop (by k_asm) (by k_asm) (by k_asm) (by k_mem) (by k_mem) ?_; k_whole; intro q' h' F' N' l1; (try k_lt l1); revert q' h' F' N' l1; intros) | ((with_reducible show wpAny _ _ (getMethod (Value.ref _) (PySem.Str.ofString "__len__") _) _ _ _); refine sup_len (by k_asm) (by k_asm) (by k_asm) (by k_mem) (by k_mem) ?_; k_whole; intro q' h' F' N' l1; (try k_lt l1); revert q' h' F' N' l1; intros) | ((with_reducible show wpAny _ _ (getMethod (Value.ref _) (PySem.Str.ofString "__init__") _) _ _ _); refine sup_init (by k_asm) (by k_asm) (by k_asm) (by k_mem) (by k_mem) ?_; k_whole; intro q' h' F' N' l1; (try k_lt l1); revert q' h' F' N' l1; intros)))
  k_with "call builtin:list.append" => (k_here; k_dflt (refine append_acc (by k_asm) (by k_asm) (by k_asm) (by k_updF) (by first | assumption | (first | lia | omega)) ?_; k_whole; intro n' h' F' N'; (try dsimp only at N'); revert n' h' F' N'; intros))
  k_with "callWith ref" => (k_here; k_dflt ((with_reducible show wpAny _ _ (callWith _ (Value.ref _) [] (backTo _ (starEach [] _)) []) _ _ _); refine bm_callWith (by k_asm) (by k_mem) (by first | exact .inl rfl | exact .inr rfl) ?_; k_whole; (try dsimp only [List.nil_append])))
  k_with "call ref" => (k_here; k_dflt (first | (refine bm_call_len (by k_asm) (by k_asm) (by k_asm) (by k_mem) (by k_mem) ?_; k_whole) | (refine bm_call_init (by k_asm) (by k_asm) (by k_asm) (by k_mem) (by k_updF) ?_; k_whole; intro n' h' F' N'; (try dsimp only at N'); revert n' h' F' N'; intros) | (refine bm_call_pop (by k_asm) (by k_asm) (by k_asm) (by k_mem) (by k_updF) (by first | assumption | (first | lia | omega)) (by assumption) ?_; k_whole; intro n' h' F' N'; (try dsimp only at N'); revert n' h' F' N'; intros)))
  k_with "wpAt" => ((fail_if_success ks_step "execs cons"); dsimp only; ks_step "execs cons"; refine ks_wpAt_execs_cons ?_)
  k_with "wpAt" => (ks_step "eval Call"; k_dflt (refine ks_wpAt_MethodCall ?_))
  k_with "k_ne" => (first | exact ne_mem1 (by with_reducible assumption) (by with_reducible assumption) | exact ne_mem1 (And.right (by with_reducible assumption)) (by with_reducible assumption) | exact ne_mem1 (And.right (And.right (by with_reducible assumption))) (by with_reducible assumption) | exact ne_mem1 (And.right (And.right (And.right (by with_reducible assumption)))) (by with_reducible assumption) | exact ne_mem1 (And.right (And.right (And.right (And.right (by with_reducible assumption))))) (by with_reducible assumption) | exact ne_mem1 (And.right (And.right (And.right (And.right (And.right (by with_reducible assumption)))))) (by with_reducible assumption) | exact ne_mem1 (And.right (And.right (And.right (And.right (And.right (And.right (by with_reducible assumption))))))) (by with_reducible assumption))
  k_with "subscriptTail" => (k_here; (with_reducible show wpAny _ _ (subscriptTail _ _ (Value.ref _) (Value.int _ _)) _ _ _); k_dflt (refine acc_itemTail (by k_asm) (by k_asm) (by k_asm) (by k_mem) (by first | assumption | (first | lia | omega)) (by (first | lia | omega)) (by assumption) (by with_unfolding_all rfl) ?_; k_whole))
  k_with "subscriptTail" => (k_here; (with_reducible show wpAny _ _ (subscriptTail _ _ (Value.ref _) (Value.ref _)) _ _ _); k_dflt (refine acc_sliceTail (by k_asm) (by k_asm) (by k_asm) (by k_mem) (by first | exact IsPart.none | exact IsPart.int _ _) (by first | exact IsPart.none | exact IsPart.int _ _) (by first | assumption | (first | lia | omega)) (by with_unfolding_all rfl) ?_; k_whole; intro l' h' F' N' l1; (try k_lt l1); revert l' h' F' N' l1; intros))
  k_with "setItem ref" => (k_here; k_dflt (refine acc_sliceSet (by k_asm) (by k_asm) (by k_asm) (by k_updF) (by first | exact IsPart.none | exact IsPart.int _ _) (by first | exact IsPart.none | exact IsPart.int _ _) (by k_mem) (by first | assumption | (first | lia | omega)) (by first | assumption | decide | (simp; done) | (first | lia | omega)) ?_; k_whole; intro n' h' F' N'; (try dsimp only at N'); revert n' h' F' N'; intros))
  k_with "setAttr ref" => (k_here; k_dflt (refine set_acc (by k_asm) (by k_asm) (by k_asm) (by k_mem) (by k_is) (by k_is) (by k_get) (by k_put) (by k_upd) (by simp) ?_; k_whole; intro h' F' N'; (try dsimp only at N'); revert h' F' N'; intros))
  k_with "k_mem" => (first | with_reducible assumption | with_reducible exact List.Mem.head _ | with_reducible exact List.Mem.tail _ (by assumption) | with_reducible exact List.Mem.tail _ (List.Mem.tail _ (by assumption)) | with_reducible exact List.Mem.tail _ (List.Mem.tail _ (List.Mem.tail _ (by assumption))))
  k_with "call ref" => (k_here; k_dflt ((with_reducible show wpAny _ _ (call (Value.ref 94) _ _) _ _ _); (apply makeF; walk_at "z8"; k_whole; intros)))
  k_with "call builtin:len" => ((with_reducible show wpAny _ _ (call (Value.builtin _) [Value.str _ _]) _ _ _); refine len_str (by (first | lia | omega)) ?_)
  k_with "call ref" => (k_here; k_dflt ((with_reducible show wpAny _ _ (call (Value.ref 294) _ _) _ _ _); (apply esc_all; walk_at "z8"; (· assumption); k_whole; intros)))
  k_with "call ref" => (k_here; k_dflt ((with_reducible show wpAny _ _ (call (Value.ref 91) _ _) _ _ _); (apply chunk_no; walk_at "z8"; (case M => assumption); (case hsq => exact WordOk.hs (by assumption)); (case hpq => (first | lia | omega)); (case hz1 => (first | lia | omega)); (case hno => (intros; (rw [show (Str.ofString " ").length = 1 from by decide]); exact mx_no (by (first | lia | omega)))); k_whole; intros)))
  k_with "call ref" => (k_here; k_dflt ((with_reducible show wpAny _ _ (call (Value.ref 91) _ _) _ _ _); (apply chunk_yes; walk_at "z8"; (case M => assumption); (case hsq => exact WordOk.hs (by assumption)); (case hpq => (first | lia | omega)); (case hz1 => (first | lia | omega)); (case hz0 => (first | lia | omega)); (case hzl9 => (first | lia | omega)); (case hyes => (intros; (rw [show (Str.ofString " ").length = 1 from by decide]); exact mx_yes2 (by (first | lia | omega)))); k_whole; intros)))
  k_with "call ref" => (k_here; k_dflt ((with_reducible show wpAny _ _ (call (Value.ref 56) _ _) _ _ _); (apply newline_A; walk_at "z8"; (case M => assumption); (case hi => (first | lia | omega)); (case hpe => rfl); (case hso => decide +kernel); (case hsq => exact WordOk.hs (by assumption)); (case hpq => (first | lia | omega)); (case hqe => exact WordOk.hne (by assumption)); (case hzl => (first | lia | omega)); (case hsp => exact WordOk.hsp (by assumption)); k_whole; intros)))
  k_with "call ref" => (k_here; k_dflt ((with_reducible show wpAny _ _ (call (Value.ref 42) _ _) _ _ _); (apply str_P; walk_at "z8"; (case M => assumption); (case he => rfl); (case hok => assumption); (case hsep => decide +kernel); k_whole; intros)))
  k_with "eval Name" => (k_here; k_dflt (first | (refine nameX_K (by k_asm) (by k_asm) (by k_asm) (by k_is) ?_ (by rfl) (by rfl); k_whole) | (refine nameX_B (by k_asm) (by k_asm) (by k_asm) (by k_is) (by boot_fast) (by decide) ?_ (by rfl) (by rfl); k_whole)))
  k_with "eval Name" => ((first | ((with_reducible show wpAny _ _ (eval (Expr.Name _ _) (envOf _ _ _ _ _)) _ _ _); refine ld (by assumption) (by walk_at "zv") ?_) | ((with_reducible show wpAny _ _ (eval (Expr.Name _ _) (envOfC _ _ _ _ _)) _ _ _); refine ldC (by assumption) (by walk_at "zv") ?_)); k_whole)
  k_with "exec For" => (refine For_loop ?_ (by intro _; rfl))
  k_with "exec For Name Call cons nil" => (k_extra "exec For")
  k_with "execs cons" => (first | (k_here; k_gentoks) | ((try (rename Flow → Shared → Prop => qq; clear qq)); (try (rename Value → Shared → Prop => qq; clear qq)); refine wpAny_execs_cons ?_; (try dsimp only); k_fold))
  trivial
theorem folded : ∀ {w : World} {loose : List Str} {mean : ExcName → Option Value} {mg mb : Str → Option Value} {dp un : Nat} {gd : Option (List Code)} {cn : Str} {cs : Scope} {a : Addr} {ccd : Value} {cl : List (Str × Addr)} {outer : List Env} {A₀ : Around} {base h₀ : Heap} {L : Addr} {m : Str → Option Value} {s : Shared} {Q E : Value → Shared → Prop} {news : List (Addr × Obj)} {l n : Nat} {vs : Array Value} {rs : List Nat} {t : Nat} {slack : Int} {kt ks kl : Tok} {sg word res : Str} {late : Bool}
  (B : Below A₀ base outer h₀) (F : Fr h₀ L s.heap m) (X : (fr.heap_1 w.params).In h₀) (N : News h₀ L s.heap news) (T : Top topProg loose mean mg mb h₀) (hk : cs.kind = .function) (hdp : dp + 60 < recursionLimit) (hun : un + 700 < cLine) (Tn : TabsIn news) (G : AllBare s.gens) (hl : (l, listOf vs n) ∈ news) (hvs : IntsL vs rs) (hrs : ∀ r ∈ rs, r ≤ 4) (hrl : rs.length ≤ 2) (ht1 : 1 ≤ t) (ht5 : t ≤ 5) (hsg : sg.length = 1) (hW : WordOk word) (hword : if late then word = sg else EscTo sg word) (hres : if late then EscTo (pageL word t rs) res else res = pageL word t rs) (hret : ∀ k₁ (s₁ : Shared) news₁, Fr h₀ L s₁.heap m → News h₀ L s₁.heap news₁ → TabsIn news₁ → KeepT news news₁ → AllBare s₁.gens → s₁.os = s.os → Q (.str res k₁) s₁),
  wpAny (model PySem.Challenge.rw_wu0100_01.row.prog w) (ktrTop dp un gd cn cs L a ccd cl outer) (call (.ref 308) [.ref l, .int t kt, .str sg ks, .int slack kl, .bool late]) Q E s := by
  k_fill
  intro w loose mean mg mb dp un gd cn cs a ccd cl outer A₀ base h₀ L m s Q E news l n vs rs t slack kt ks kl sg word res late B F X N T hk hdp hun Tn G hl hvs hrs hrl ht1 ht5 hsg hW hword hres hret
  refine wpAny_call ?_
  k_dflt (refine' code_def ?k1 ?k2 ?k3 ?k4 ?k5 ?kA ?kF ?kK ?k6 ?k7 ?k8 ?k9 ?kB ?_ ?c2 ?c3 ?c4 ?c5; (case kA => exact rfl); (case kF => exact rfl); (case kK => first | exact rfl | assumption); (case k1 => k_asm); (case k2 => k_asm); (case k3 => k_asm); (case k4 => k_asm); (case k5 => k_asm); (case k6 => k_is); (case k7 => k_is); (case k8 => ktr_room); (case k9 => exact BindsTo.of_eq rfl); (case c5 => decide); (case kB => exact locs rfl); (case c2 => exact rfl); (case c3 => exact rfl); (case c4 => exact rfl); k_whole; intro g' L' h' FG' F' N' B' X' T'; (try dsimp only); (try k_lift B'); (try k_fold))
  obtain ⟨M0', ⟨f1, f2, f3, f4, f5⟩, F0⟩ := fr_gen (P := fun M => M (Str.ofString "runs") = some (.ref l) ∧ M (Str.ofString "t") = some (.int (t : Int) kt) ∧ M (Str.ofString "sign") = some (.str sg ks) ∧ M (Str.ofString "slack") = some (.int slack kl) ∧ M (Str.ofString "late") = some (.bool late)) F' ⟨rfl, rfl, rfl, rfl, rfl⟩
  clear F'
  iterate 3 walk1
  refine join_str word F0 N' ?_ ?_
  · intro QQ hQQ
    cases late
    · have hw : EscTo sg word := by simpa using hword
      k_steps
      all_goals exact hQQ _ _ _ (by k_asm) (by k_asm)
    · have hw : word = sg := by simpa using hword
      subst hw
      k_steps
      all_goals exact hQQ _ _ _ (by k_asm) (by k_asm)
  have hW6 := hW.h6
  have hW1 := hW.h1
  intro k9 h9 tk9 F' N'
  k_steps
  rename_i ca cd ln pa fd n1 h1 x1 c1 a1 a2 a3 a4 a5 a6 y1 y2 y3 y4 y5 y6 u1 u2 u3 u4 h1' tk1' l0 l1 l2 l3 l4 h5 F5 N5
  obtain ⟨base, N6, A0, M0, hs0, hca, hcd, hln⟩ := open_paper (q := word) Tn N5 l0 l1 l2 l3 l4 (by (first | lia | omega))
  have HL0 := LocF.of (pa := pa) (word := word) (kw := k9) (late := late) F5 ⟨by (repeat (refine Eq.trans (if_neg ?_) ?_; focus decide)); first | exact if_pos rfl | exact f5, by (repeat (refine Eq.trans (if_neg ?_) ?_; focus decide)); first | exact if_pos rfl | exact f5, by (repeat (refine Eq.trans (if_neg ?_) ?_; focus decide)); first | exact if_pos rfl | exact f5⟩
  obtain ⟨hvz, hints⟩ := hvs
  refine loop_list (L := L') (l := l) (vs := vs) (c := n) (I := fun j rest m₁ g o => AccL rest ca cd #[] SPC word ∧ FmtL rest pa fd ca ln _ ((rowsL t (rs.take j)).map (rowStr word)) ∧ KeepP ca cd ln base rest ∧ AllBare g ∧ o = s.os ∧ LocF m₁ pa word k9 late) (hs0 _ hl) rfl rfl rfl rfl F5 N6 ⟨A0, M0, KeepP.rfl, G, rfl, HL0⟩ (fun i rest m₁ g o hI => hI.2.2.1 _ (hs0 _ hl) (hca _ hl) (hcd _ hl) (nd_ne Tn.nd hl Tn.t1.choose_spec.1 (cls_ne (by simp))) (nd_ne Tn.nd hl Tn.t2.choose_spec.1 (cls_ne (by simp))) (hln _ hl)) ?_ ?_
  · clear F5 HL0 N5
    intro it i rest m₁ s₁ v o' E' hit hi hv hc hI1 hne F7 N7
    try k_fold
    obtain ⟨A1, M1, K1, G1, os1, HL1⟩ := hI1
    have hi' : i < rs.length := hvz ▸ hi
    obtain ⟨tk7, e7⟩ := hints i hi'
    rw [e7] at hv
    cases hv
    have hr4 : rs[i] ≤ 4 := hrs _ (List.getElem_mem hi')
    have hll0 : ((rowsL t (rs.take i)).map (rowStr word)).length ≤ 10 := by
      rw [List.length_map]
      refine Nat.le_trans (rowsL_len fun r hr => hrs r (List.mem_of_mem_take hr)) ?_
      rw [List.length_take]
      (first | lia | omega)
    have A2 := A1.add hne (o := o')
    have M2 := M1.add (e := (it, o'))
    have HL2 := HL1.upd (x := Str.ofString "run") (v := .int (rs[i] : Int) tk7) (by decide) (by decide) (by decide)
    obtain ⟨p1, p2, p3⟩ := HL1
    k_steps
    refine' loop_range (L := L') (n := rs[i] + 1) (I := fun j rest₂ m₂ g o => ∃ its, AccL rest₂ ca cd its SPC word ∧ FmtL rest₂ pa fd ca ln (t * ((word.length : Int) + 1) + slack.fmod ((word.length : Int) + 1)) ((rowsL t (rs.take i)).map (rowStr word) ++ List.replicate (full t j) (rowStr word t)) ∧ its.size = cnt t j ∧ KeepP ca cd ln ((it, o') :: rest) rest₂ ∧ AllBare g ∧ o = s.os ∧ LocF m₂ pa word k9 late) ?hr ?hn ?hsm rfl rfl rfl rfl ?hF ?hN ?h0 ?hb ?hQ
    case hr => assumption
    case hn => exact size_up (by (first | lia | omega))
    case hsm => exact small_up (k := rs[i] + 1) (by (first | lia | omega)) (by (first | lia | omega))
    case hF => k_asm
    case hN => k_asm
    case h0 => exact ⟨#[], A2, by simpa [full] using M2, by simp [cnt, full], KeepP.rfl, G1, os1, HL2⟩
    · intro it2 i2 rest2 m₂ s₂ tk2 o2 E2 hit2 hi2 hc2 hI1 hne2 F8 N8
      try k_fold
      obtain ⟨its, A3, M3, hsz3, K3, G3, os3, HL3⟩ := hI1
      have hle : its.size ≤ t := by rw [hsz3]; exact cnt_le ht1
      have A4 := A3.add hne2 (o := o2)
      have M4 := M3.add (e := (it2, o2))
      have hf4 : full t i2 ≤ 5 := by unfold full; exact Nat.le_trans (Nat.div_le_self _ _) (by (first | lia | omega))
      have hll : ((rowsL t (rs.take i)).map (rowStr word) ++ List.replicate (full t i2) (rowStr word t)).length ≤ 99 := by
        rw [List.length_append, List.length_replicate]; (first | lia | omega)
      (refine FmtL.elim M4 ?_; intro hpa₁ a1 a2 a3 a4 a5 a6 y1 y2 y3 y4 y5 y6 u1 u2 u3 u4  hfd₁ vs₁ c₁ hln₁ hS₁ hzl₁)
      have HL4 := HL3.upd (x := Str.ofString "k") (v := .int (0 + (i2 : Int) * 1) tk2) (by decide) (by decide) (by decide)
      obtain ⟨q1, q2, q3⟩ := HL3
      clear p1 p2 p3 A1 A2 M1 M2 A3 M3
      by_cases hlt : its.size < t
      · k_steps
        rename AccL _ _ _ _ _ _ => A9
        rename FmtL _ _ _ _ _ _ _ => M9
        rename KeepP _ _ _ _ _ => K9
        rename AllBare _ => G9
        rename_i os9 hl9 hsz9
        have hit9 := KeepP.itr A4 M4 K9 (.head _) hc2 (by decide) (by decide) (by decide)
        obtain ⟨g1, g2⟩ := step_no ht1 (hsz3 ▸ hlt)
        refine ⟨_, _, hit9, ⟨_, A9.drop hit9 hc2 (by decide) (by decide), ?_, ?_, K3.itr' K9 hit2, G9, os9.trans os3, HL4⟩, ?_, ?_⟩
        · rw [g1]; exact hl9 ▸ M9.drop A9.nd hit9 hc2 (by decide) (by decide)
        · rw [g2, hsz9, hsz3]
        · k_asm
        · k_asm
      · have heq : its.size = t := by (first | lia | omega)
        k_steps
        rename AccL _ _ _ _ _ _ => A9
        rename FmtL _ _ _ _ _ _ _ => M9
        rename KeepP _ _ _ _ _ => K9
        rename AllBare _ => G9
        rename_i os9 hl9 hsz9
        have hit9 := KeepP.itr A4 M4 K9 (.head _) hc2 (by decide) (by decide) (by decide)
        obtain ⟨g1, g2⟩ := step_yes ht1 (by rw [hsz3] at heq; unfold cnt at heq; (first | lia | omega)) (hsz3 ▸ heq)
        refine ⟨_, _, hit9, ⟨_, A9.drop hit9 hc2 (by decide) (by decide), ?_, ?_, K3.itr' K9 hit2, G9, os9.trans os3, HL4⟩, ?_, ?_⟩
        · have M10 := M9.drop A9.nd hit9 hc2 (by decide) (by decide)
          rw [hl9, heq, List.append_assoc] at M10
          rw [g1, List.replicate_succ']
          exact M10
        · rw [g2, hsz9]
        · k_asm
        · k_asm
    · intro rest3 m₃ s₃ hI1 F9 N9
      try k_fold
      obtain ⟨its, A5, M5, hsz5, K5, G5, os5, HL5⟩ := hI1
      have hi1 : 1 ≤ its.size := by rw [hsz5]; exact cnt_pos (by (first | lia | omega))
      obtain ⟨q1, q2, q3⟩ := id HL5
      have hf4 : full t (rs[i] + 1) ≤ 5 := by unfold full; exact Nat.le_trans (Nat.div_le_self _ _) (by (first | lia | omega))
      have hll : ((rowsL t (rs.take i)).map (rowStr word) ++ List.replicate (full t (rs[i] + 1)) (rowStr word t)).length ≤ 99 := by
        rw [List.length_append, List.length_replicate]; (first | lia | omega)
      (refine FmtL.elim M5 ?_; intro hpa₁ a1 a2 a3 a4 a5 a6 y1 y2 y3 y4 y5 y6 u1 u2 u3 u4  hfd₁ vs₁ c₁ hln₁ hS₁ hzl₁)
      have hit5 := KeepP.itr A2 M2 K5 (.head _) hc (by decide) (by decide) (by decide)
      clear p1 p2 p3 A1 A2 M1 M2
      try dsimp only
      k_steps
      rename AccL _ _ _ _ _ _ => A9
      rename FmtL _ _ _ _ _ _ _ => M9
      rename KeepP _ _ _ _ _ => K9
      rename AllBare _ => G9
      rename_i os9 hl9
      have hit9 := KeepP.itr A5 M5 K9 hit5 hc (by decide) (by decide) (by decide)
      obtain ⟨g1, g2⟩ := full_end (r := rs[i]) ht1
      refine ⟨_, _, hit9, ⟨A9.drop hit9 hc (by decide) (by decide), ?_, K1.itr' (K5.trans K9) hit, G9, os9.trans os5, HL5⟩, ?_, ?_⟩
      · have M10 := M9.drop A9.nd hit9 hc (by decide) (by decide)
        rw [hl9, g1, hsz5, g2, List.append_assoc] at M10
        rw [rowsL_snoc hi', List.map_append, rowsOf1, List.map_append, List.map_replicate]
        exact M10
      · k_asm
      · k_asm
  · clear F5 HL0 N5
    intro rest m₁ s₁ hI1 F7 N7
    try k_fold
    obtain ⟨A1, M1, K1, G1, os1, HL1⟩ := hI1
    obtain ⟨p1, p2, p3⟩ := HL1
    have A2 := A1.nil (p' := Str.ofString "") (q' := Str.ofString "") (by decide) (by decide)
    rw [List.take_of_length_le (by (first | lia | omega))] at M1
    have hok := lines_ok ht1 ht5 hrs hrl hW6
    (refine FmtL.elim M1 ?_; intro hpa₁ a1 a2 a3 a4 a5 a6 y1 y2 y3 y4 y5 y6 u1 u2 u3 u4  hfd₁ vs₁ c₁ hln₁ hS₁ hzl₁)
    clear A1
    try dsimp only
    cases late
    · have hr : Txt.join (Str.ofString "/") ((rowsL t rs).map (rowStr word)) = res := by simpa [pageL] using hres.symm
      subst hr
      k_steps
      rename KeepP _ _ _ _ _ => K9
      rename AllBare _ => G9
      rename List.Nodup _ => nd9
      rename Shared.os _ = _ => os9
      have hk9 := (K1.trans K9).toT hs0 hca hcd hln
      exact hret _ _ _ (by k_asm) (by k_asm) ⟨nd9, by assumption, by assumption⟩ hk9 G9 (os9.trans os1)
    · have hr : EscTo (Txt.join (Str.ofString "/") ((rowsL t rs).map (rowStr word))) res := by simpa [pageL] using hres
      k_steps
      rename KeepP _ _ _ _ _ => K9
      rename AllBare _ => G9
      rename List.Nodup _ => nd9
      rename Shared.os _ = _ => os9
      have hk9 := (K1.trans K9).toT hs0 hca hcd hln
      exact hret _ _ _ (by k_asm) (by k_asm) ⟨nd9, by assumption, by assumption⟩ hk9 G9 (os9.trans os1)
end
section
open PySem PySem.Spec PySem.Calls PySem.W PyProof.Rows
set_option maxRecDepth 100000
set_option maxHeartbeats 400000
section
variable {prog : Program} {w : World} {A : Around} {s : Shared} {h₀ : Heap} {L : Addr} {m : Str → Option Value} {env : Env}
theorem compEnd_mono {s₁ : Shared} {I C D : Addr} {oI oC oD : Obj} {S : List (Addr × Obj) → Prop} {r r' : Value → List (Addr × Obj) → Prop} {y : Value} {s₂ : Shared} (h : LCg.CompEnd h₀ L m s₁ I oI C oC D oD S r y s₂) (hr : ∀ y nw, r y nw → r' y nw) : LCg.CompEnd h₀ L m s₁ I oI C oC D oD S r' y s₂ :=
  let ⟨h', tk, nw, e, F, N, o, hS, hx⟩ := h
  ⟨h', tk, nw, e, F, N, o, hS, hr _ _ hx⟩
theorem comp_ind {elt : Expr} {x : Str} {scope : Scope} {cl : List (Str × Addr)} {S : List (Addr × Obj) → Prop} {P : Nat → Value → Prop} {Fin : List Value → List (Addr × Obj) → Prop} (n : Nat) (Inv : Nat → List Value → List (Addr × Obj) → Prop)
    (hstep : ∀ i ys news, i < n → Inv i ys news → ∀ v I oI C oC D m₂ h tk (E' : Value → Shared → Prop), P i v → LCg.NsObj oC m₂ → m₂ x = some v → Fr h₀ L h m → News h₀ L h ((I, oI) :: (C, oC) :: (D, LCg.lst ys) :: news) → LCg.Off3 I C D news → ((@Ne Nat I C) ∧ (@Ne Nat I D) ∧ (@Ne Nat C D)) →
      wpAny (model prog w) A (eval elt (compEnvC scope cl C env)) (LCg.CompEnd h₀ L m { s with heap := h, toks := tk } I oI C oC D (LCg.lst ys) S (fun y news' => Inv (i + 1) (ys ++ [y]) news')) E' { s with heap := h, toks := tk })
    (hfin : ∀ ys news, Inv n ys news → Fin ys news) : ∀ k i ys news, i + k = n → Inv i ys news → LCg.CompRest prog w A h₀ L m env elt x scope cl s S P Fin k i ys news := by
  intro k
  induction k with
  | zero => intro i ys news e hI; exact LCg.CompRest.zero (hfin ys news (by rw [← e]; exact hI))
  | succ k ih =>
    intro i ys news e hI
    refine LCg.CompRest.succ fun v I oI C oC D m₂ h tk E' hP hC hx F N off ne => ?_
    exact wpAny_mono (hstep i ys news (by (first | lia | omega)) hI v I oI C oC D m₂ h tk E' hP hC hx F N off ne) (fun y s₂ hE => compEnd_mono hE fun y' nw hI' => ih (i + 1) (ys ++ [y']) nw (by (first | lia | omega)) hI') fun _ _ z => z
end
theorem dropL_head {it : Addr} {o : Obj} {l : List (Addr × Obj)} (h : ∀ y ∈ l, y.1 ≠ it) : dropL it ((it, o) :: l) = l := by
  unfold dropL
  rw [List.filter_cons]
  simp only [ne_eq, not_true_eq_false, decide_false, Bool.false_eq_true, if_false]
  exact List.filter_eq_self.mpr fun y hy => by simpa using h y hy
end
section
open PySem PySem.Spec PySem.Calls PySem.W PyProof.Rows
set_option maxRecDepth 100000
set_option maxHeartbeats 400000
theorem sign_dict (t1 u1 t2 u2 t3 u3 t4 u4 : Tok) : ∀ p ∈ signs, ∃ k, valueAt (strPairs [(.str (Str.ofString "&") t1, .str (Str.ofString "&amp;") u1), (.str (Str.ofString "<") t2, .str (Str.ofString "&lt;") u2), (.str (Str.ofString ">") t3, .str (Str.ofString "&gt;") u3), (.str (Str.ofString "\"") t4, .str (Str.ofString "&quot;") u4)]) p.1 = some (.str p.2 k) := by
  have h1 : Str.ofString "&" ≠ Str.ofString "<" := by decide
  have h2 : Str.ofString "&" ≠ Str.ofString ">" := by decide
  have h3 : Str.ofString "&" ≠ Str.ofString "\"" := by decide
  have h4 : Str.ofString "<" ≠ Str.ofString ">" := by decide
  have h5 : Str.ofString "<" ≠ Str.ofString "\"" := by decide
  have h6 : Str.ofString ">" ≠ Str.ofString "\"" := by decide
  intro p hp
  simp only [signs, List.mem_cons, List.not_mem_nil, or_false] at hp
  rcases hp with rfl | rfl | rfl | rfl
  · exact ⟨u1, by simp [valueAt, strPairs]⟩
  · exact ⟨u2, by simp [valueAt, strPairs, h1]⟩
  · exact ⟨u3, by simp [valueAt, strPairs, h2, h4]⟩
  · exact ⟨u4, by simp [valueAt, strPairs, h3, h5, h6]⟩
section
variable {w : World} {A : Around} {E : Value → Shared → Prop} {s : Shared} {h₀ : Heap} {L : Addr} {m : Str → Option Value} {news : List (Addr × Obj)}
theorem dict_item {d : Addr} {o : Obj} {kvs : List (Str × Value)} {x : Str} {v : Value} {u : Tok} {Q : Value → Shared → Prop} (N : News h₀ L s.heap news) (hm : (d, o) ∈ news) (hd : o.IsDictOf (PySem.strKind PG w) kvs) (hv : valueAt kvs x = some v) (h : Q v { s with toks := s.toks + 1 }) :
    wpAny (model PG w) A (getItem (.ref d) (.str x u)) Q E s := wpAny_getItem_of (strKind_is _ _ _ _) (Heap.dictOf_iff.mpr ⟨o, (N _ hm).1, hd⟩).mapOf hv h
theorem dict_itemS {d : Addr} {o : Obj} {kvs : List (Str × Value)} {x y : Str} {u : Tok} {Q : Value → Shared → Prop} (N : News h₀ L s.heap news) (hm : (d, o) ∈ news) (hd : o.IsDictOf (PySem.strKind PG w) kvs) (hs : (x, y) ∈ signs) (hv : ∀ p ∈ signs, ∃ k, valueAt kvs p.1 = some (.str p.2 k)) (h : ∀ k, Q (.str y k) { s with toks := s.toks + 1 }) :
    wpAny (model PG w) A (getItem (.ref d) (.str x u)) Q E s := let ⟨k, e⟩ := hv _ hs; dict_item N hm hd e (h k)
theorem rows1 {r t : Nat} (ht : 1 ≤ t) : ((r + 1) % t = 0 → rowsOf1 t r = List.replicate ((r + 1) / t) t) ∧ (0 < (r + 1) % t → rowsOf1 t r = List.replicate ((r + 1) / t) t ++ [(r + 1) % t]) := by
  unfold rowsOf1
  have h1 := Nat.div_add_mod r t
  have h2 := Nat.mod_lt r ht
  constructor
  · intro h
    have hq : (r + 1) / t = r / t + 1 ∧ r % t + 1 = t := by
      by_cases hl : r % t + 1 = t
      · refine ⟨?_, hl⟩
        have e : r + 1 = t * (r / t + 1) := by rw [Nat.mul_add]; (first | lia | omega)
        rw [e, Nat.mul_div_cancel_left _ ht]
      · exfalso
        have e : r + 1 = (r % t + 1) + t * (r / t) := by (first | lia | omega)
        rw [e, Nat.add_mul_mod_self_left, Nat.mod_eq_of_lt (by (first | lia | omega))] at h
        (first | lia | omega)
    rw [hq.1, hq.2, List.replicate_succ']
  · intro h
    have hl : r % t + 1 ≠ t := fun hl => by
      have e : r + 1 = t * (r / t + 1) := by rw [Nat.mul_add]; (first | lia | omega)
      rw [e, Nat.mul_mod_right] at h
      (first | lia | omega)
    have e : r + 1 = (r % t + 1) + t * (r / t) := by (first | lia | omega)
    have hq : (r + 1) / t = r / t ∧ (r + 1) % t = r % t + 1 := by
      constructor
      · rw [e, Nat.add_mul_div_left _ _ ht, Nat.div_eq_of_lt (by (first | lia | omega))]
        simp
      · rw [e, Nat.add_mul_mod_self_left, Nat.mod_eq_of_lt (by (first | lia | omega))]
    rw [hq.1, hq.2]
theorem join_flat : ∀ l : List Str, (Str.join (Str.ofString "") l).cps.toList = (l.map (·.cps.toList)).flatten
  | [] => rfl
  | [p] => by simp [Str.join]
  | p :: q :: r => by
    rw [join_two, join_flat (q :: r), show (Str.ofString "").cps.toList = [] by decide]
    simp
theorem mul_row {q : Str} {n : Nat} (h : 1 ≤ n) (hq : 1 ≤ q.length) : Txt.mul (SPC ++ q) (n : Int) = rowStr q n := by
  unfold Txt.mul rowStr
  rw [if_neg (by (first | lia | omega)), txt_join]
  have hl : (SPC ++ q).length ≠ 0 := by rw [Str.length_append]; (first | lia | omega)
  by_cases h1 : n = 1
  · subst h1
    rw [if_pos (by simp)]
    rfl
  · rw [if_neg (by simp; exact ⟨by (first | lia | omega), hl⟩)]
    apply str_ext
    rw [join_flat]
    have g : ∀ (l : List (Array Nat)) (a : Array Nat), (l.foldl (· ++ ·) a).toList = a.toList ++ (l.map (·.toList)).flatten := by
      intro l
      induction l with
      | nil => intro a; simp
      | cons x l ih => intro a; rw [List.foldl_cons, ih]; simp
    rw [g]
    simp
theorem IntsL.app {vs us : Array Value} {rs qs : List Nat} (h : IntsL vs rs) (h' : IntsL us qs) : IntsL (vs.toList ++ us.toList).toArray (rs ++ qs) := by
  refine ⟨by simp [h.1, h'.1], fun i hi => ?_⟩
  have hv : vs.toList.length = rs.length := by simpa using h.1
  rw [List.getElem?_toArray]
  by_cases hlt : i < rs.length
  · obtain ⟨tk, e⟩ := h.2 i hlt
    refine ⟨tk, ?_⟩
    rw [List.getElem?_append_left (by (first | lia | omega)), List.getElem_append_left hlt]
    simpa using e
  · rw [List.length_append] at hi
    obtain ⟨tk, e⟩ := h'.2 (i - rs.length) (by (first | lia | omega))
    refine ⟨tk, ?_⟩
    rw [List.getElem?_append_right (by (first | lia | omega)), List.getElem_append_right (by (first | lia | omega)), hv]
    simpa using e
theorem IntsL.rep {c t : Nat} {kt : Tok} : IntsL (List.replicate c (.int (t : Int) kt)).toArray (List.replicate c t) := by
  refine ⟨by simp, fun i hi => ⟨kt, ?_⟩⟩
  rw [List.length_replicate] at hi
  simp [hi]
theorem IntsL.one {x : Nat} {kt : Tok} {y : Int} (e : y = (x : Int)) : IntsL #[.int y kt] [x] := by
  subst e
  exact ⟨rfl, fun i hi => by simp at hi; subst hi; exact ⟨kt, rfl⟩⟩
theorem IntsL.push {vs : Array Value} {rs : List Nat} {x : Nat} {kt : Tok} {y : Int} (h : IntsL vs rs) (e : y = (x : Int)) : IntsL (vs.push (.int y kt)) (rs ++ [x]) := by
  have := h.app (IntsL.one (kt := kt) e)
  have e2 : (vs.toList ++ (#[Value.int y kt] : Array Value).toList).toArray = vs.push (.int y kt) := by apply Array.toList_inj.mp; simp
  rwa [e2] at this
theorem mul_ok {q : Str} {n : Nat} (hq : q.length ≤ 6) (h1 : 1 ≤ n) (h5 : n ≤ 5) : MulOk (SPC ++ q) (n : Int) := by
  have hl : (SPC ++ q).length ≤ 7 := by rw [Str.length_append, show SPC.length = 1 by decide]; (first | lia | omega)
  refine ⟨by simp; (first | lia | omega), fun _ _ => ?_, fun _ _ => ?_⟩
  · have : (7 : Int) ≤ (2 ^ 63 - 1) / (n : Int) := Int.le_ediv_of_mul_le (by (first | lia | omega)) (by (first | lia | omega))
    (first | lia | omega)
  · have h3 : (SPC ++ q).length * (n : Int).toNat ≤ 7 * 5 := Nat.mul_le_mul hl (by (first | lia | omega))
    unfold Builtin.Str.tooLong
    rw [sizeLine_eq]
    exact decide_eq_false (by (first | lia | omega))
theorem mul_K {l : Addr} {v : Value} {k c : Nat} {x : Int} {u : Tok} {Q : Value → Shared → Prop} (F : Fr h₀ L s.heap m) (N : News h₀ L s.heap news) (hl : (l, listOf #[v] k) ∈ news) (hx : x = (c : Int)) (hc : c ≤ 100)
    (h : ∀ q h', Fr h₀ L h' m → News h₀ L h' ((q, listOf (List.replicate c v).toArray 0) :: news) → (∀ p ∈ news, @LT.lt Nat _ p.1 q) → Q (.ref q) { s with heap := h' }) : wpAny (model PG w) A (binaryOp .Mult (.ref l) (.int x u)) Q E s := by
  subst hx
  refine mul_list F N (N _ hl).1 (by (first | lia | omega)) (by (first | lia | omega)) (by simp; (first | lia | omega)) fun h' F' N' => ?_
  refine h _ h' F' ?_ (fun p hp => Heap.lt_size (N p hp).1)
  have e : (List.foldl (fun x1 x2 => x1 ++ x2) #[] (List.replicate (if (#[v] : Array Value).isEmpty = true then 0 else (c : Int).toNat) #[v])) = (List.replicate c v).toArray := by
    have g : ∀ (n : Nat) (a : Array Value), List.foldl (fun x1 x2 => x1 ++ x2) a (List.replicate n #[v]) = a ++ (List.replicate n v).toArray := by
      intro n
      induction n with
      | zero => intro a; simp
      | succ n ih => intro a; rw [List.replicate_succ, List.foldl_cons, ih]; apply Array.toList_inj.mp; simp [List.replicate_succ]
    rw [if_neg (by simp), Int.toNat_natCast, g]; simp
  rw [e] at N'
  exact N'
theorem mul_Ki {l : Addr} {v : Value} {k : Nat} {x : Int} {u : Tok} {Q : Value → Shared → Prop} (F : Fr h₀ L s.heap m) (N : News h₀ L s.heap news) (hl : (l, listOf #[v] k) ∈ news) (h0 : 0 ≤ x) (h1 : x ≤ 100)
    (h : ∀ q h', Fr h₀ L h' m → News h₀ L h' ((q, listOf (List.replicate x.toNat v).toArray 0) :: news) → (∀ p ∈ news, @LT.lt Nat _ p.1 q) → Q (.ref q) { s with heap := h' }) : wpAny (model PG w) A (binaryOp .Mult (.ref l) (.int x u)) Q E s :=
  mul_K F N hl (Int.toNat_of_nonneg h0).symm (by (first | lia | omega)) h
theorem eq_no {x y : Str} {t u : Tok} {Q : Value → Shared → Prop} (h : x ≠ y) (hq : Q (.bool false) s) : wpAny (model PG w) A (compareOp .Eq (.str x t) (.str y u)) Q E s := PyProof.Rows.eq_str (by rw [show (x == y) = false by simpa using h]; exact hq)
theorem eq_yes {x y : Str} {t u : Tok} {Q : Value → Shared → Prop} (h : x = y) (hq : Q (.bool true) s) : wpAny (model PG w) A (compareOp .Eq (.str x t) (.str y u)) Q E s := PyProof.Rows.eq_str (by rw [show (x == y) = true by simpa using h]; exact hq)
theorem ge_no {a b : Int} {t u : Tok} {Q : Value → Shared → Prop} (h : a < b) (hq : Q (.bool false) s) : wpAny (model PG w) A (compareOp .GtE (.int a t) (.int b u)) Q E s := PyProof.Rows.ge_int (by rw [decide_eq_false (by (first | lia | omega))]; exact hq)
theorem ge_yes {a b : Int} {t u : Tok} {Q : Value → Shared → Prop} (h : b ≤ a) (hq : Q (.bool true) s) : wpAny (model PG w) A (compareOp .GtE (.int a t) (.int b u)) Q E s := PyProof.Rows.ge_int (by rw [decide_eq_true (by (first | lia | omega))]; exact hq)
theorem ext_K {D b : Addr} {its its2 : Array Value} {n n2 : Nat} {Q : Value → Shared → Prop} {g : Obj → List (Addr × Obj)} (F : Fr h₀ L s.heap m) (N : News h₀ L s.heap news) (hb : (b, listOf its2 n2) ∈ news) (U : UpdF D (listOf its n) news g) (hz : its.size ≤ 100) (hz2 : its2.size ≤ 100)
    (h : ∀ h' n', Fr h₀ L h' m → News h₀ L h' (g (listOf (its.toList ++ its2.toList).toArray n')) → Q .none { s with heap := h' }) : wpAny (model PG w) A (call (.builtin "list.extend") [.ref D, .ref b]) Q E s := by
  have hs : sizeLine = 2 ^ 24 := rfl
  have hd : ¬(!its.isEmpty && Builtin.List.listTooLong (its.size + its2.size)) = true := extend_door (by (first | lia | omega))
  by_cases h0 : its2.toList.length = 0
  · have e0 : its2.toList = [] := List.eq_nil_of_length_eq_zero h0
    refine kxn_extend F N hb e0 (updF_upd U) hd (by simp; (first | lia | omega)) (by (first | lia | omega)) fun h' F' N' => h h' n F' ?_
    rw [e0]; simpa using N'
  · exact kl_extend F N hb rfl h0 (updF_upd U) hd (by simp; (first | lia | omega)) (by (first | lia | omega)) fun h' F' N' => h h' (n + 1) F' N'
theorem app_K {D : Addr} {its : Array Value} {n : Nat} {v : Value} {Q : Value → Shared → Prop} {g : Obj → List (Addr × Obj)} (F : Fr h₀ L s.heap m) (N : News h₀ L s.heap news) (U : UpdF D (listOf its n) news g) (hz : its.size ≤ 1000)
    (h : ∀ h' n', Fr h₀ L h' m → News h₀ L h' (g (listOf (its.push v) n')) → Q .none { s with heap := h' }) : wpAny (model PG w) A (call (.builtin "list.append") [.ref D, v]) Q E s :=
  append_K F N (updF_upd U) (fun h' F' N' => h h' _ F' N') (by rw [sizeLine_eq]; (first | lia | omega))
end
section
variable {w : World} {A : Around} {E : Value → Shared → Prop} {s : Shared} {h₀ : Heap} {L : Addr} {m : Str → Option Value} {news : List (Addr × Obj)}
theorem get_K {value slice : PySem.Expr} {l : Addr} {its : Array Value} {n : Nat} {k : Int} {u : Tok} {v : Value} {Q : Value → Shared → Prop} (N : News h₀ L s.heap news) (hm : (l, listOf its n) ∈ news) (h0 : 0 ≤ k) (h1 : k < 2 ^ 63) (hx : its[k.toNat]? = some v) (h : Q v s)
    (hs : subscripted slice false (.ref l) (.int k u) = operate [.ref l, .int k u] (getItem (.ref l) (.int k u)) := by with_unfolding_all rfl) : wpAny (model PG w) A (subscriptTail value slice (.ref l) (.int k u)) Q E s :=
  have hl : s.heap.IsList l its := ⟨_, (N _ hm).1, rfl, _, rfl⟩
  tail_any hl.typeIs slot_list_getitem.lookup (wpAny_getItem_list hl h0 h1 hx h) hs
theorem get_Kneg {value slice : PySem.Expr} {l : Addr} {its : Array Value} {n : Nat} {k : Int} {u : Tok} {v : Value} {Q : Value → Shared → Prop} (N : News h₀ L s.heap news) (hm : (l, listOf its n) ∈ news) (h0 : k < 0) (h1 : -(its.size : Int) ≤ k) (h2 : -(2 ^ 63) ≤ k) (hx : its[(k + its.size).toNat]? = some v) (h : Q v s)
    (hs : subscripted slice false (.ref l) (.int k u) = operate [.ref l, .int k u] (getItem (.ref l) (.int k u)) := by with_unfolding_all rfl) : wpAny (model PG w) A (subscriptTail value slice (.ref l) (.int k u)) Q E s :=
  have hl : s.heap.IsList l its := ⟨_, (N _ hm).1, rfl, _, rfl⟩
  tail_any hl.typeIs slot_list_getitem.lookup (wpAny_getItem_list_neg hl h0 h1 h2 hx h) hs
theorem len_K {l : Addr} {its : Array Value} {n : Nat} {Q : Value → Shared → Prop} (N : News h₀ L s.heap news) (hm : (l, listOf its n) ∈ news) (hz : its.size ≤ 1000) (h : ∀ u tk, Q (.int (its.size : Int) u) { s with toks := tk }) : wpAny (model PG w) A (call (.builtin "len") [.ref l]) Q E s :=
  len_list ⟨_, (N _ hm).1, rfl, _, rfl⟩ (by (first | lia | omega)) (h _ _)
theorem geti_K {l : Addr} {its : Array Value} {n : Nat} {k : Int} {u : Tok} {v : Value} {Q : Value → Shared → Prop} (N : News h₀ L s.heap news) (hm : (l, listOf its n) ∈ news) (h0 : 0 ≤ k) (h1 : k < 2 ^ 63) (hx : its[k.toNat]? = some v) (h : Q v s) : wpAny (model PG w) A (getItem (.ref l) (.int k u)) Q E s :=
  wpAny_getItem_list ⟨_, (N _ hm).1, rfl, _, rfl⟩ h0 h1 hx h
theorem set_K {D : Addr} {its : Array Value} {n : Nat} {k : Int} {t : Tok} {v : Value} {Q : Unit → Shared → Prop} {g : Obj → List (Addr × Obj)} (F : Fr h₀ L s.heap m) (N : News h₀ L s.heap news) (U : UpdF D (listOf its n) news g) (h0 : 0 ≤ k) (h1 : k < its.size) (hfit : k < 2 ^ 63)
    (h : ∀ h', Fr h₀ L h' m → News h₀ L h' (g (listOf (its.setIfInBounds k.toNat v) n)) → Q () { s with heap := h' }) : wpAny (model PG w) A (setItem (.ref D) (.int k t) v) Q E s := by
  have U' := updF_upd (o' := listOf (its.setIfInBounds k.toNat v) n) U
  obtain ⟨pre, post, e1, e2, a, b⟩ := U'.split
  subst e1
  rw [e2] at h
  have z := N (D, listOf its n) (List.mem_append.mpr (.inr (.head _)))
  exact ki_setAt z.1 h0 hfit h1 (h _ (F.change (Heap.SameBut.update ..) z.2.1 z.2.2) (ki_turn (fun x => x.setIfInBounds k.toNat v) N a b rfl (by simp)))
theorem tup_K {l : Addr} {its : Array Value} {n : Nat} {Q : Value → Shared → Prop} (F : Fr h₀ L s.heap m) (N : News h₀ L s.heap news) (hl : (l, listOf its n) ∈ news) (hz : its.size ≤ 1000)
    (h : ∀ D h', Fr h₀ L h' m → News h₀ L h' ((D, ({ cls := .type "tuple", data := .seq its } : Obj)) :: news) → (∀ p ∈ news, @LT.lt Nat _ p.1 D) → Q (.ref D) { s with heap := h' }) : wpAny (model PG w) A (call (.type "tuple") [.ref l]) Q E s :=
  kde_tupleOf F N ⟨_, (N _ hl).1, rfl, _, rfl⟩ (by (first | lia | omega)) rfl fun D h' F' N' hlt => h D h' F' (by simpa using N') hlt
theorem add_K {l b : Addr} {its its2 : Array Value} {n n2 : Nat} {Q : Value → Shared → Prop} (F : Fr h₀ L s.heap m) (N : News h₀ L s.heap news) (hl : (l, listOf its n) ∈ news) (hb : (b, listOf its2 n2) ∈ news) (hz : its.size ≤ 1000) (hz2 : its2.size ≤ 1000)
    (h : ∀ q h', Fr h₀ L h' m → News h₀ L h' ((q, listOf (its.toList ++ its2.toList).toArray 0) :: news) → (∀ p ∈ news, @LT.lt Nat _ p.1 q) → Q (.ref q) { s with heap := h' }) : wpAny (model PG w) A (binaryOp .Add (.ref l) (.ref b)) Q E s :=
  add_arrays (hsz := by rw [sizeLine_eq]; (first | lia | omega)) F N ⟨_, (N _ hl).1, rfl, _, rfl⟩ ⟨_, (N _ hb).1, rfl, _, rfl⟩ fun h' F' N' => h _ h' F' N' fun p hp => Heap.lt_size (N p hp).1
end
theorem IntsL.at {vs : Array Value} {rs : List Nat} (h : IntsL vs rs) {i : Nat} (hi : i < rs.length) : ∃ tk, vs[i]? = some (.int (rs[i] : Int) tk) := h.2 i hi
theorem IntsL.set {vs : Array Value} {rs : List Nat} {i x : Nat} {kt : Tok} {y : Int} (h : IntsL vs rs) (hi : i < rs.length) (e : y = (x : Int)) : IntsL (vs.setIfInBounds i (.int y kt)) (rs.set i x) := by
  subst e
  refine ⟨by simp [h.1], fun j hj => ?_⟩
  rw [List.length_set] at hj
  by_cases hij : i = j
  · subst hij
    refine ⟨kt, ?_⟩
    rw [Array.getElem?_setIfInBounds_self_of_lt (by rw [h.1]; exact hi)]
    simp
  · obtain ⟨tk, e⟩ := h.2 j hj
    refine ⟨tk, ?_⟩
    rw [Array.getElem?_setIfInBounds_ne hij, e]
    simp [List.getElem_set, hij]
theorem IntsL.nil : IntsL #[] [] := ⟨rfl, fun i h => by cases h⟩
theorem IntsL.rep0 {c : Nat} {kt : Tok} {y : Int} {x : Nat} (e : y = (x : Int)) : IntsL (List.replicate c (.int y kt)).toArray (List.replicate c x) := by subst e; exact .rep
end
section
open PySem PySem.Spec PySem.Calls PySem.W PyProof.Rows
set_option maxRecDepth 100000
set_option maxHeartbeats 0
theorem rows_S17_1 : True := by
  k_with_none
  w_top off
  k_with "zv" => ((repeat (first | (refine Eq.trans (ite_off ?_) ?_; focus decide) | (refine Eq.trans (upd_off ?_) ?_; focus decide))); first | with_reducible assumption | exact if_pos rfl | exact upd_on)
  k_with "zo" => (first | (first | lia | omega) | (simp; (first | lia | omega)))
  k_with "k_mem" => (assumption)
  k_with "k_ne" => (first | exact ne_mem1 (by with_reducible assumption) (by with_reducible assumption) | exact ne_mem2 (by with_reducible assumption) (by with_reducible assumption))
  k_with "wpAt" => ((fail_if_success ks_step "execs cons"); dsimp only; ks_step "execs cons"; refine ks_wpAt_execs_cons ?_)
  k_with "wpAt" => (ks_step "eval Call"; k_dflt (refine ks_wpAt_MethodCall ?_))
  k_with "k_ne" => (first | exact ne_mem1 (by with_reducible assumption) (by with_reducible assumption) | exact ne_mem1 (And.right (by with_reducible assumption)) (by with_reducible assumption) | exact ne_mem1 (And.right (And.right (by with_reducible assumption))) (by with_reducible assumption) | exact ne_mem1 (And.right (And.right (And.right (by with_reducible assumption)))) (by with_reducible assumption) | exact ne_mem1 (And.right (And.right (And.right (And.right (by with_reducible assumption))))) (by with_reducible assumption) | exact ne_mem1 (And.right (And.right (And.right (And.right (And.right (by with_reducible assumption)))))) (by with_reducible assumption) | exact ne_mem1 (And.right (And.right (And.right (And.right (And.right (And.right (by with_reducible assumption))))))) (by with_reducible assumption))
  k_with "k_mem" => (first | with_reducible assumption | with_reducible exact List.Mem.head _ | with_reducible exact List.Mem.tail _ (by assumption) | with_reducible exact List.Mem.tail _ (List.Mem.tail _ (by assumption)) | with_reducible exact List.Mem.tail _ (List.Mem.tail _ (List.Mem.tail _ (by assumption))))
  k_with "getItem ref str" => (k_here; k_dflt (refine dict_itemS (by k_asm) (by k_mem) (by assumption) (by assumption) (by exact sign_dict _ _ _ _ _ _ _ _) ?_; k_whole; intro _))
  k_with "binaryOp Mult ref int" => (k_here; k_dflt (refine mul_K (by k_asm) (by k_asm) (by k_mem) (by assumption) (by (first | lia | omega)) ?_; k_whole; intro q' h' F' N' l1; (try k_lt l1); revert q' h' F' N' l1; intros))
  k_with "call builtin:list.extend" => (k_here; k_dflt (refine ext_K (by k_asm) (by k_asm) (by k_mem) (by k_updF) (by walk_at "zo") (by (walk_at "zo")) ?_; k_whole; intro h' n' F' N'; (try dsimp only at N'); revert h' n' F' N'; intros))
  k_with "call builtin:list.append" => (k_here; k_dflt (refine app_K (by k_asm) (by k_asm) (by k_updF) (by (walk_at "zo")) ?_; k_whole; intro h' n' F' N'; (try dsimp only at N'); revert h' n' F' N'; intros))
  k_with "eval ListComp" => (k_here; k_dflt (refine LCg.ListComp_U (F₀ := by k_asm) (by with_unfolding_all rfl) (by decide) (by rfl) (by decide) (by rfl) ?_))
  k_with "eval Name" => (k_here; k_dflt (first | (refine nameX_K (by k_asm) (by k_asm) (by k_asm) (by k_is) ?_ (by rfl) (by rfl); k_whole) | (refine nameX_B (by k_asm) (by k_asm) (by k_asm) (by k_is) (by boot_fast) (by decide) ?_ (by rfl) (by rfl); k_whole)))
  k_with "eval Name" => ((first | ((with_reducible show wpAny _ _ (eval (Expr.Name _ _) (envOf _ _ _ _ _)) _ _ _); refine ld (by assumption) (by walk_at "zv") ?_) | ((with_reducible show wpAny _ _ (eval (Expr.Name _ _) (envOfC _ _ _ _ _)) _ _ _); refine ldC (by assumption) (by walk_at "zv") ?_)); k_whole)
  k_with "exec For" => (refine For_loop ?_ (by intro _; with_unfolding_all rfl))
  k_with "exec For Name Call cons nil" => (refine For_loop ?_ (by intro _; with_unfolding_all rfl))
  k_with "exec For Name Name cons nil" => (refine For_loop ?_ (by intro _; with_unfolding_all rfl))
  k_with "exec For Name Attribute cons nil" => (refine For_loop ?_ (by intro _; with_unfolding_all rfl))
  k_with "execs cons" => (first | (k_here; k_gentoks) | ((try (rename Flow → Shared → Prop => qq; clear qq)); (try (rename Value → Shared → Prop => qq; clear qq)); refine wpAny_execs_cons ?_; (try dsimp only); k_fold))
  k_with "binaryOp Add str str" => (refine HoldK.of ?_)
  k_with "binaryOp Mult str int" => (refine HoldK.of ?_)
  trivial
theorem page : ∀ {w : World} {loose : List Str} {mean : ExcName → Option Value} {mg mb : Str → Option Value} {dp un : Nat} {gd : Option (List Code)} {cn : Str} {cs : Scope} {a : Addr} {ccd : Value} {cl : List (Str × Addr)} {outer : List Env} {A₀ : Around} {base h₀ : Heap} {L : Addr} {m : Str → Option Value} {s : Shared} {Q E : Value → Shared → Prop} {news : List (Addr × Obj)} {l n : Nat} {vs : Array Value} {rs : List Nat} {t : Nat} {kt ks : Tok} {sg word : Str}
  (B : Below A₀ base outer h₀) (F : Fr h₀ L s.heap m) (X : (fr.heap_1 w.params).In h₀) (N : News h₀ L s.heap news) (T : Top topProg loose mean mg mb h₀) (hk : cs.kind = .function) (hdp : dp + 12 < recursionLimit) (hun : un + 160 < cLine) (hl : (l, listOf vs n) ∈ news) (hvs : IntsL vs rs) (hrs : ∀ r ∈ rs, r ≤ 4) (hrl : rs.length ≤ 2) (ht1 : 1 ≤ t) (ht5 : t ≤ 5) (hsg : (sg, word) ∈ signs) (hW : WordOk word) (hret : ∀ k₁ (s₁ : Shared), Fr h₀ L s₁.heap m → News h₀ L s₁.heap news → s₁.gens = s.gens → s₁.os = s.os → Q (.str (pageL word t rs) k₁) s₁),
  wpAny (model PySem.Challenge.rw_wu0100_01.row.prog w) (ktrTop dp un gd cn cs L a ccd cl outer) (call (.ref 313) [.ref l, .int t kt, .str sg ks]) Q E s := by
  k_fill
  intro w loose mean mg mb dp un gd cn cs a ccd cl outer A₀ base h₀ L m s Q E news l n vs rs t kt ks sg word B F X N T hk hdp hun hl hvs hrs hrl ht1 ht5 hsg hW hret
  refine wpAny_call ?_
  k_dflt (refine' code_defC ?k1 ?k2 ?k3 ?k4 ?k5 ?kA ?kF ?kK ?k6 ?k7 ?k8 ?k9 ?kB ?kD ?_ ?c2 ?c3 ?c4; (case kA => exact rfl); (case kF => exact rfl); (case kK => first | exact rfl | assumption); (case k1 => k_asm); (case k2 => k_asm); (case k3 => k_asm); (case k4 => k_asm); (case k5 => k_asm); (case k6 => k_is); (case k7 => k_is); (case k8 => ktr_room); (case k9 => exact BindsTo.of_eq rfl); (case kB => exact rfl); (case kD => decide +kernel); (case c2 => exact rfl); (case c3 => exact rfl); (case c4 => exact rfl); k_whole; intro g' L' h' tk' cells' FG' F' N' Y' B' X' T' l1; (have hoff := off0 l1); (try k_lt l1); k_cells Y'; (try simp only [List.cons_append, List.nil_append] at N'); (try dsimp only); (try k_lift B'); (try k_fold))
  obtain ⟨M0', ⟨f1, f2, f3⟩, F0⟩ := fr_gen (P := fun M => M (Str.ofString "runs") = some (.ref l) ∧ M (Str.ofString "t") = some (.int (t : Int) kt) ∧ M (Str.ofString "sign") = some (.str sg ks)) F' ⟨rfl, rfl, rfl⟩
  clear F'
  k_steps
  rename_i lo0 hd0 hf0 ap0 l10 k9 h2 oc dc rl h3 l9 h4 F5 N5
  clear hd0 hf0 lo0 ap0
  have N6 : News g' L' h4 ((rl, listOf #[] 0) :: (L' + 1, oc) :: news) := cb_drop N5 (by intro p hp; rcases List.mem_cons.mp hp with rfl | hp; exact .head _; exact .tail _ (.tail _ hp))
  clear N5
  obtain ⟨-, l8, l7⟩ := l9
  have l6 := allLt_all _ l7
  have hoff2 : OwnOff news [rl] := fun p hp b hb => by cases List.mem_singleton.mp hb; exact Nat.ne_of_lt (l6 p hp)
  obtain ⟨hvz, hints⟩ := hvs
  refine loop_list (L := L') (l := l) (vs := vs) (c := n) (I := fun j rest m₁ g o => ∃ ws c, rest = (rl, listOf ws c) :: (L' + 1, oc) :: news ∧ IntsL ws (rowsL t (rs.take j)) ∧ m₁ (Str.ofString "t") = some (.int (t : Int) kt) ∧ m₁ (Str.ofString "rows") = some (.ref rl) ∧ g = s.gens ∧ o = s.os) (.tail _ (.tail _ hl)) rfl rfl rfl rfl F5 N6 ⟨#[], 0, rfl, ⟨rfl, fun i h => by simp [rowsL] at h⟩, by (repeat (refine Eq.trans (if_neg ?_) ?_; focus decide)); first | exact if_pos rfl | exact f2, by (repeat (refine Eq.trans (if_neg ?_) ?_; focus decide)); first | exact if_pos rfl | exact f2, rfl, rfl⟩ (fun i rest m₁ g o hI => by obtain ⟨ws, c, rfl, -⟩ := hI; exact .tail _ (.tail _ hl)) ?_ ?_
  · clear F5 N6
    intro it i rest m₁ s₁ v o' E' hit hi hv hc hI1 hne F7 N7
    try k_fold
    obtain ⟨ws, c, hrest, hws, p1, p2, hg, hos⟩ := hI1
    subst hrest
    have hi' : i < rs.length := hvz ▸ hi
    obtain ⟨tk7, e7⟩ := hints i hi'
    rw [e7] at hv
    cases hv
    have hr4 : rs[i] ≤ 4 := hrs _ (List.getElem_mem hi')
    have q1 : @Ne Nat rl it := hne _ (.head _)
    have q2 : @Ne Nat (L' + 1) it := hne _ (.tail _ (.head _))
    have q3 : @Ne Nat (L' + 1) rl := Nat.ne_of_lt l8
    have q4 : @LT.lt Nat _ rl s₁.heap.objs.size := Heap.lt_size (N7 _ (.tail _ (.head _))).1
    have q5 : @LT.lt Nat _ it s₁.heap.objs.size := Heap.lt_size (N7 _ (.head _)).1
    have q6 : @LT.lt Nat _ (L' + 1) s₁.heap.objs.size := Heap.lt_size (N7 _ (.tail _ (.tail _ (.head _)))).1
    have hfull : ((rs[i] : Int) + 1).fdiv t = (((rs[i] + 1) / t : Nat) : Int) := by
      rw [Int.fdiv_eq_ediv_of_nonneg _ (by (first | lia | omega))]; norm_cast
    have hleft : ((rs[i] : Int) + 1).fmod t = (((rs[i] + 1) % t : Nat) : Int) := by
      rw [Int.fmod_eq_emod_of_nonneg _ (by (first | lia | omega))]; norm_cast
    have hf5 : (rs[i] + 1) / t ≤ 5 := Nat.le_trans (Nat.div_le_self _ _) (by (first | lia | omega))
    have hz : ws.size ≤ 10 := by
      rw [hws.1]
      refine Nat.le_trans (rowsL_len fun r hr => hrs r (List.mem_of_mem_take hr)) ?_
      rw [List.length_take]
      (first | lia | omega)
    have hne' : ∀ x, ∀ y ∈ (rl, x) :: (L' + 1, oc) :: news, y.1 ≠ it := fun x y hy => by
      rcases List.mem_cons.mp hy with rfl | hy
      · exact q1
      · exact hne y (.tail _ hy)
    have hrow := rows1 (r := rs[i]) ht1
    k_steps
    · rename 0 < _ => hpos
      rw [hleft] at hpos
      rename News _ _ _ _ => N9
      rename Fr _ _ _ _ => F9
      refine ⟨(it, o') :: (rl, _) :: (L' + 1, oc) :: news, _, .head _, ⟨_, _, by rw [dropL_head (hne' _)], ?_, ?_, ?_, hg, hos⟩, F9, cb_drop N9 (by intro p hp; repeat (first | exact hp | apply List.Mem.tail))⟩
      · rw [rowsL_snoc hi']
        rw [hrow.2 (by (first | lia | omega)), ← List.append_assoc]
        exact (hws.app IntsL.rep).push hleft
      · (repeat (refine Eq.trans (if_neg ?_) ?_; focus decide)); exact p1
      · (repeat (refine Eq.trans (if_neg ?_) ?_; focus decide)); exact p2
    · rename ¬ 0 < _ => hpos
      rw [hleft] at hpos
      rename News _ _ _ _ => N9
      rename Fr _ _ _ _ => F9
      refine ⟨(it, o') :: (rl, _) :: (L' + 1, oc) :: news, _, .head _, ⟨_, _, by rw [dropL_head (hne' _)], ?_, ?_, ?_, hg, hos⟩, F9, cb_drop N9 (by intro p hp; repeat (first | exact hp | apply List.Mem.tail))⟩
      · rw [rowsL_snoc hi']
        rw [hrow.1 (by (first | lia | omega))]
        exact hws.app IntsL.rep
      · (repeat (refine Eq.trans (if_neg ?_) ?_; focus decide)); exact p1
      · (repeat (refine Eq.trans (if_neg ?_) ?_; focus decide)); exact p2
  · clear F5 N6
    intro rest m₁ s₁ hI1 F7 N7
    try k_fold
    obtain ⟨ws, c, hrest, hws, p1, p2, hg, hos⟩ := hI1
    subst hrest
    rw [List.take_of_length_le (by (first | lia | omega))] at hws
    try dsimp only
    have hsz : ws.size ≤ 10 := by rw [hws.1]; exact Nat.le_trans (rowsL_len hrs) (by (first | lia | omega))
    k_steps
    refine LCg.CompSrc.ledger rfl F7 N7 (.head _) (by rw [sizeLine_eq]; (first | lia | omega)) ?_
    intro g9
    refine comp_ind ws.size (fun i ys nw => nw = (rl, listOf ws c) :: (L' + 1, oc) :: news ∧ StrsAre ys (((rowsL t rs).take i).map (rowStr word))) ?_ ?_ _ 0 [] _ (Nat.zero_add _) ⟨rfl, by simpa using StrsAre.nil⟩
    · intro i ys nw hi hI1 v I oI C oC D m₂ h tk E' hP hC hx F8 N8 off ne
      try k_fold
      obtain ⟨hnw, hys⟩ := hI1
      subst hnw
      have hi' : i < (rowsL t rs).length := by rw [← hws.1]; exact hi
      obtain ⟨tk7, e7⟩ := hws.2 i hi'
      rw [e7] at hP
      cases hP
      have hn5 : (rowsL t rs)[i] ≤ 5 := rowsL_le ht5 ht1 _ (List.getElem_mem hi')
      have hn1 : 1 ≤ (rowsL t rs)[i] := rowsL_pos ht1 _ (List.getElem_mem hi')
      k_steps
      refine add_str (fun t8 tk8 => ?_) (by rw [sizeLine_eq]; have h6 := hW.h6; have h1 : (Str.ofString " ").length = 1 := (by decide); (first | lia | omega))
      k_steps
      refine SB.mul (mul_ok hW.h6 hn1 hn5) fun t9 k9' => ?_
      rw [mul_row hn1 hW.h1]
      refine LCg.CompEnd.intro F8 N8 ((rl, listOf ws c) :: (L' + 1, oc) :: news) (fun p hp => hp) off (.inr ⟨_, .head _, rfl, _, rfl⟩) ⟨rfl, ?_⟩
      rw [List.take_add_one, List.getElem?_eq_getElem hi', List.map_append]
      exact strsAre_snoc hys
    · intro ys nw hI1
      try k_fold
      obtain ⟨hnw, hys⟩ := hI1
      subst hnw
      rw [List.take_of_length_le (by rw [← hws.1]; exact Nat.le_refl _)] at hys
      have hok := lines_ok ht1 ht5 hrs hrl hW.h6
      k_steps
      rename News _ _ _ _ => N9
      refine join_listC ⟨_, (N9 _ (.head _)).1, rfl, _, rfl⟩ (by simpa using hys) (by decide) hok (fun t8 k8 => ?_)
      k_steps
      exact hret _ _ (by k_asm) (cb_drop (by k_asm) (by intro p hp; repeat (first | exact hp | apply List.Mem.tail))) hg hos
end
section
open PySem PySem.Spec PySem.Calls PySem.W PyProof.Rows
set_option maxRecDepth 100000
set_option maxHeartbeats 400000
noncomputable abbrev TestsOf (ifs : List Expr) (env : Env) : Sem Bool := forIn ifs true fun c r => if r = true then do let ok ← isTrue c env (eval c env); pure (ForInStep.yield ok) else pure (ForInStep.yield r)
noncomputable def TurnIs (e : Expr) (depth : Nat) (it acc : Value) (env : Env) (tgt : Expr) (ifs : List Expr) (tail : Sem Fin) : Prop := ∃ p, compTurn e depth it acc env = (do
  standAt p
  match ← pyNext it with
  | none => pure (.done .next)
  | some v =>
    letOwnedTupleGo tgt it v
    assign tgt env v
    let mut ok := true
    for c in ifs do
      if ok then ok ← isTrue c env (eval c env)
    if ok then tail else again (.compLoop e depth it acc env))
noncomputable abbrev TailApp (elt : Expr) (acc : Value) (env : Env) (c : Code) : Sem Fin := do
  (do let _ ← call (.builtin "list.append") [acc, ← eval elt env])
  again c
theorem turn_one {elt tgt iter : Expr} {ifs : List Expr} {scope : Scope} {pos : Pos} {it acc : Value} {env : Env} :
    TurnIs (.ListComp elt [⟨tgt, iter, ifs, 0⟩] scope pos) 0 it acc env tgt ifs (TailApp elt acc env (.compLoop (.ListComp elt [⟨tgt, iter, ifs, 0⟩] scope pos) 0 it acc env)) := ⟨_, rfl⟩
theorem turn_in {elt t1 t2 i1 i2 : Expr} {ifs1 ifs2 : List Expr} {scope : Scope} {pos : Pos} {it acc : Value} {env : Env} :
    TurnIs (.ListComp elt [⟨t1, i1, ifs1, 0⟩, ⟨t2, i2, ifs2, 0⟩] scope pos) 1 it acc env t2 ifs2 (TailApp elt acc env (.compLoop (.ListComp elt [⟨t1, i1, ifs1, 0⟩, ⟨t2, i2, ifs2, 0⟩] scope pos) 1 it acc env)) := ⟨_, rfl⟩
noncomputable abbrev TailIn (e i2 : Expr) (acc : Value) (env : Env) (c : Code) : Sem Fin := do
  let x ← eval i2 env
  standAt i2.pos
  let x ← foldedSetIterable i2 env x
  let _ ← runOwn (.compStart e 1 (← holding [x] (pyIter x)) acc env) env
  again c
theorem turn_out {elt t1 t2 i1 i2 : Expr} {ifs1 ifs2 : List Expr} {scope : Scope} {pos : Pos} {it acc : Value} {env : Env} :
    TurnIs (.ListComp elt [⟨t1, i1, ifs1, 0⟩, ⟨t2, i2, ifs2, 0⟩] scope pos) 0 it acc env t1 ifs1 (TailIn (.ListComp elt [⟨t1, i1, ifs1, 0⟩, ⟨t2, i2, ifs2, 0⟩] scope pos) i2 acc env (.compLoop (.ListComp elt [⟨t1, i1, ifs1, 0⟩, ⟨t2, i2, ifs2, 0⟩] scope pos) 0 it acc env)) := ⟨_, rfl⟩
section
variable {w : World} {A : Around} {E : Value → Shared → Prop} {R : Result → Shared → Prop} {s : Shared} {h₀ : Heap} {L : Addr} {m : Str → Option Value} {env : Env}
theorem comp_code {elt tgt : Expr} {gens : List Comprehension} {ifs : List Expr} {scope : Scope} {pos : Pos} {depth : Nat} {it acc : Value} {tail : Sem Fin} (ht : TurnIs (.ListComp elt gens scope pos) depth it acc env tgt ifs tail) (J : Nat → Shared → Prop)
    (turn : ∀ k s, J k s → wpAny (model PG w) A (pyNext it) (fun r s₁ => match r with
      | none => R (.ok .next) s₁
      | some v => wpAny (model PG w) A (letOwnedTupleGo tgt it v) (fun _ s₂ => wpAny (model PG w) A (assign tgt env v) (fun _ s₃ =>
          wpAny (model PG w) A (TestsOf ifs env) (fun ok s₄ =>
            if ok = true then wpAny (model PG w) A tail (fun fin s₅ => fin = .again (.compLoop (.ListComp elt gens scope pos) depth it acc env) ∧ ∃ j, j < k ∧ J j s₅) (notedBy (model PG w) A env fun e s' => R (.error e) s') s₄
            else ∃ j, j < k ∧ J j s₄) (notedBy (model PG w) A env fun e s' => R (.error e) s') s₃) (notedBy (model PG w) A env fun e s' => R (.error e) s') s₂) (notedBy (model PG w) A env fun e s' => R (.error e) s') s₁) (notedBy (model PG w) A env fun e s' => R (.error e) s') s)
    (k : Nat) (h : J k s) : codeAny (model PG w) A (.compLoop (.ListComp elt gens scope pos) depth it acc env) R s := by
  obtain ⟨p, ht⟩ := ht
  refine codeAny_loop rfl J (fun k s hJ => ?_) k h
  show wpAny _ A ((compTurn (.ListComp elt gens scope pos) depth it acc env).onRaise (fun x => do noteFrame x env; theTreesLotGoes x)) _ _ s
  refine wpAny_noted ?_
  rw [ht]
  refine wpAny_bind (wpAny_standAt (wpAny_bind (wpAny_mono (turn k s hJ) (fun r s₁ h₁ => ?_) fun _ _ x => x)))
  cases r with
  | none => exact wpAny_pure h₁
  | some v =>
    refine wpAny_bind (wpAny_mono h₁ (fun _ s₂ h₂ => wpAny_bind (wpAny_mono h₂ (fun _ s₃ h₃ => wpAny_bind (wpAny_mono h₃ (fun ok s₄ h₄ => ?_) fun _ _ x => x)) fun _ _ x => x)) fun _ _ x => x)
    cases ok with
    | false => exact wpAny_pure ⟨rfl, h₄⟩
    | true => exact wpAny_mono h₄ (fun fin s₅ h₅ => by obtain ⟨rfl, h₅⟩ := h₅; exact ⟨rfl, h₅⟩) fun _ _ x => x

/-- what the assignment of an item to the target does -/
noncomputable def Binds (w : World) (A : Around) (h₀ : Heap) (L : Addr) (m : Str → Option Value) (cenv : Env) (tgt : Expr) (I C : Addr) (St : Heap → Prop) (T : List (Addr × Obj) → Value → Prop) (B : List (Addr × Obj) → Value → (Str → Option Value) → Prop) : Prop :=
  ∀ v s oI oC m₂ news (Q : Unit → Shared → Prop) E, T news v → Fr h₀ L s.heap m → News h₀ L s.heap ((I, oI) :: (C, oC) :: news) → LCg.NsObj oC m₂ → (∀ p ∈ news, p.1 ≠ I ∧ p.1 ≠ C) → St s.heap →
    (∀ h' tk oI' oC' m₃, Fr h₀ L h' m → News h₀ L h' ((I, oI') :: (C, oC') :: news) → LCg.NsObj oC' m₃ → St h' → B news v m₃ → Q () { s with heap := h', toks := tk }) →
    wpAny (model PG w) A (letOwnedTupleGo tgt (.ref I) v) (fun _ s₁ => wpAny (model PG w) A (assign tgt cenv v) Q E s₁) E s

noncomputable def TurnEnd (h₀ : Heap) (L : Addr) (m : Str → Option Value) (I : Addr) (oI : Obj) (C : Addr) (Inv : List (Addr × Obj) → Array GenState → OsState → Prop) (s : Shared) : Prop :=
  ∃ oC m₂ news, Fr h₀ L s.heap m ∧ News h₀ L s.heap ((I, oI) :: (C, oC) :: news) ∧ LCg.NsObj oC m₂ ∧ (∀ p ∈ news, p.1 ≠ I ∧ p.1 ≠ C) ∧ Inv news s.gens s.os

theorem comp_walk {elt tgt : Expr} {gens : List Comprehension} {ifs : List Expr} {scope : Scope} {pos : Pos} {depth : Nat} {acc : Value} {tail : Sem Fin} {I C : Addr} {fp : List Addr} {n : Nat} {P : Nat → Value → Prop} {St : Nat → Heap → Prop}
    (T : List (Addr × Obj) → Value → Prop) (B : List (Addr × Obj) → Value → (Str → Option Value) → Prop)
    (ht : TurnIs (.ListComp elt gens scope pos) depth (.ref I) acc env tgt ifs tail) (S : List (Addr × Obj) → Prop) (Inv : Nat → List (Addr × Obj) → Array GenState → OsState → Prop)
    (W : Walks PG w A I fp [I] n P St) (hIo : ∀ i h, St i h → ∃ o, h.get? I = some o) (hSt : ∀ i h h' o nw, St i h → h.get? I = some o → h'.get? I = some o → (∀ b o, h₀.get? b = some o → h'.get? b = some o) → News h₀ L h' nw → S nw → St i h')
    (hIL : L ≠ I) (hI0 : h₀.get? I = none) (hS : ∀ i news g o, Inv i news g o → S news) (hb : ∀ i, i < n → Binds w A h₀ L m env tgt I C (St (i + 1)) T B)
    (hT : ∀ i v news g o, i < n → P i v → Inv i news g o → T news v) (hIC : C ≠ I)
    (hturn : ∀ i v s₁ oI oC m₂ news E', i < n → P i v → Inv i news s₁.gens s₁.os → B news v m₂ → Fr h₀ L s₁.heap m → News h₀ L s₁.heap ((I, oI) :: (C, oC) :: news) → LCg.NsObj oC m₂ → (∀ p ∈ news, p.1 ≠ I ∧ p.1 ≠ C) →
      wpAny (model PG w) A (TestsOf ifs env) (fun ok s₃ => if ok = true then wpAny (model PG w) A tail (fun fin s₄ => fin = .again (.compLoop (.ListComp elt gens scope pos) depth (.ref I) acc env) ∧ TurnEnd h₀ L m I oI C (Inv (i + 1)) s₄) E' s₃ else TurnEnd h₀ L m I oI C (Inv (i + 1)) s₃) E' s₁)
    (hend : ∀ h' tk s₁ oC m₂ news, s₁ = { s₁ with heap := h', toks := tk } → Fr h₀ L h' m → News h₀ L h' ((C, oC) :: news) → LCg.NsObj oC m₂ → (∀ p ∈ news, p.1 ≠ C) → Inv n news s₁.gens s₁.os → R (.ok .next) s₁)
    {oI : Obj} (h0 : TurnEnd h₀ L m I oI C (Inv 0) s) (hst : St 0 s.heap) : codeAny (model PG w) A (.compLoop (.ListComp elt gens scope pos) depth (.ref I) acc env) R s := by
  refine comp_code ht (fun k s' => ∃ i oI, i ≤ n ∧ k = n - i ∧ St i s'.heap ∧ TurnEnd h₀ L m I oI C (Inv i) s') ?_ n ⟨0, oI, Nat.zero_le _, rfl, hst, h0⟩
  rintro k s' ⟨i, oI, hi, rfl, hst', oC, m₂, news, F, N, hC, off, hI⟩
  by_cases hlt : i < n
  · refine W.item i _ _ _ hlt hst' fun v h₁ tk hP hst₁ hk => ?_
    have F1 : Fr h₀ L h₁ m := LCg.fr_but F hk hIL hI0
    have keep : ∀ p ∈ (C, oC) :: news, p.1 ≠ I := fun p hp => by
      rcases List.mem_cons.mp hp with rfl | hp
      · exact hIC
      · exact (off p hp).1
    have N1 := LCg.news_but (fun p hp => N p (.tail _ hp)) hk keep
    obtain ⟨oI1, hI1⟩ : ∃ o, h₁.get? I = some o := by
      cases e : h₁.get? I with
      | some o => exact ⟨o, rfl⟩
      | none => obtain ⟨o, e'⟩ := hIo _ _ hst₁; exact absurd e' (by rw [e]; simp)
    have N1' : News h₀ L h₁ ((I, oI1) :: (C, oC) :: news) := fun p hp => by
      rcases List.mem_cons.mp hp with rfl | hp
      · exact ⟨hI1, Ne.symm hIL, hI0⟩
      · exact N1 p hp
    refine hb i hlt v { s' with heap := h₁, toks := tk } oI1 oC m₂ news _ _ (hT i v news _ _ hlt hP hI) F1 N1' hC off hst₁ fun h₂ tk₂ oI2 oC2 m₃ F2 N2 hC2 hst₂ hB => ?_
    refine wpAny_mono (hturn i v { s' with heap := h₂, toks := tk₂ } oI2 oC2 m₃ news _ hlt hP hI hB F2 N2 hC2 off) (fun ok s₃ h₃ => ?_) fun _ _ x => x
    have fin : ∀ s₄, TurnEnd h₀ L m I oI2 C (Inv (i + 1)) s₄ → ∃ j, j < n - i ∧ ∃ i oI, i ≤ n ∧ j = n - i ∧ St i s₄.heap ∧ TurnEnd h₀ L m I oI C (Inv i) s₄ := by
      intro s₄ h₄
      obtain ⟨oC', m', news', F', N', hC', off', hI'⟩ := id h₄
      refine ⟨n - (i + 1), by omega, i + 1, oI2, hlt, rfl, hSt _ _ _ _ news' hst₂ (N2 _ (.head _)).1 (N' _ (.head _)).1 F'.keep (fun p hp => N' p (.tail _ (.tail _ hp))) (hS _ _ _ _ hI'), h₄⟩
    cases ok with
    | true => exact wpAny_mono h₃ (fun _ s₄ h₄ => ⟨h₄.1, fin s₄ h₄.2⟩) fun _ _ x => x
    | false => exact fin s₃ h₃
  · have e : i = n := by omega
    subst e
    refine W.done _ _ _ hst' fun h₁ tk hk => ?_
    have keep : ∀ p ∈ (C, oC) :: news, p.1 ≠ I := fun p hp => by
      rcases List.mem_cons.mp hp with rfl | hp
      · exact hIC
      · exact (off p hp).1
    exact hend h₁ tk _ oC m₂ news rfl (LCg.fr_but F hk hIL hI0) (LCg.news_but (fun p hp => N p (.tail _ hp)) hk keep) hC (fun p hp => (off p hp).2) hI
theorem tail_app {elt : Expr} {acc : Value} {c : Code} {X : Shared → Prop} (h : wpAny (model PG w) A (eval elt env) (fun y s₁ => wpAny (model PG w) A (call (.builtin "list.append") [acc, y]) (fun _ s₂ => X s₂) E s₁) E s) :
    wpAny (model PG w) A (TailApp elt acc env c) (fun fin s' => fin = .again c ∧ X s') E s :=
  wpAny_bind (wpAny_bind (wpAny_mono h (fun _ s₁ h₁ => wpAny_bind (wpAny_mono h₁ (fun _ s₂ h₂ => wpAny_pure (wpAny_pure ⟨rfl, h₂⟩)) fun _ _ x => x)) fun _ _ x => x))
theorem tail_in {e i2 : Expr} {acc : Value} {c : Code} {X : Shared → Prop} (hs : ∀ x, foldedSetIterable i2 env x = pure x)
    (h : wpAny (model PG w) A (eval i2 env) (fun x s₁ => wpAny (model PG w) A (pyIter x) (fun it s₂ => codeAny (model PG w) A (.compStart e 1 it acc env) (fun r s' => match r with | .ok _ => X s' | .error e => cameBackBy (model PG w) A env E e s') s₂) E s₁) E s) :
    wpAny (model PG w) A (TailIn e i2 acc env c) (fun fin s' => fin = .again c ∧ X s') E s := by
  refine wpAny_bind (wpAny_mono h (fun x s₁ h₁ => wpAny_bind (wpAny_standAt (wpAny_bind (wpAny_of_eq (hs x) (wpAny_bind (wpAny_holding (wpAny_mono h₁ (fun it s₂ h₂ => wpAny_bind (wpAny_runOwn (codeAny_mono h₂ fun r s' hr => ?_))) fun _ _ x => x))))))) fun _ _ x => x)
  cases r with
  | ok f => exact wpAny_pure ⟨rfl, hr⟩
  | error e => exact hr
end
end
section
open PySem PySem.Spec PySem.Calls PySem.W PyProof.Rows
set_option maxRecDepth 100000
set_option maxHeartbeats 400000
section
variable {w : World} {A : Around} {E : Value → Shared → Prop} {s : Shared} {h₀ : Heap} {L : Addr} {m : Str → Option Value} {env : Env}
noncomputable def BindsAll (w : World) (A : Around) (h₀ : Heap) (L : Addr) (m : Str → Option Value) (env : Env) (scope : Scope) (cl : List (Str × Addr)) (tgt : Expr) (I : Addr) (Li : Heap → Prop) (T : List (Addr × Obj) → Value → Prop) (B : List (Addr × Obj) → Value → (Str → Option Value) → Prop) : Prop :=
  ∀ (C : Addr) (St : Heap → Prop), (∀ h h', St h → (∀ b o, b ≠ C → h.get? b = some o → h'.get? b = some o) → St h') → (∀ h, St h → Li h) → Binds w A h₀ L m (compEnvC scope cl C env) tgt I C St T B
theorem binds_name {x : Str} {px : Pos} {scope : Scope} {cl : List (Str × Addr)} {I : Addr} {Li : Heap → Prop} (hkind : scope.kind = .function) (hx : scope.names.lookup x = some .local) :
    BindsAll w A h₀ L m env scope cl (.Name x px) I Li (fun _ _ => True) (fun _ v m₃ => m₃ x = some v) := by
  intro C St hfr _ v s oI oC m₂ news Q E _ F N hC off hst hQ
  refine wpAny_pure ?_
  have zC := N (C, oC) (.tail _ (.head _))
  have hns : s.heap.Ns (compEnvC scope cl C env).locals m₂ := hC.ns zC.1
  refine wpAny_assign_Name (wpAny_storeName_local (lookup_relabel_local hx) hns (fun h₃ hn₃ hs₃ => ?_) (by simp [compEnvC, relabel, hkind]))
  obtain ⟨oC', eC, hC'⟩ := LCg.ns_obj hn₃
  have N₃ : ∀ oI', h₃.get? I = some oI' → (@Ne Nat I C) → News h₀ L h₃ ((I, oI') :: (C, oC') :: news) := fun oI' e ne p hp => by
    rcases List.mem_cons.mp hp with rfl | hp
    · exact ⟨e, (N _ (.head _)).2⟩
    · rcases List.mem_cons.mp hp with rfl | hp
      · exact ⟨eC, zC.2⟩
      · exact ⟨hs₃.extBut _ _ (off p hp).2 (N p (.tail _ (.tail _ hp))).1, (N p (.tail _ (.tail _ hp))).2⟩
  by_cases ne : @Eq Nat I C
  · have ne' : I = C := ne
    subst ne'
    have N3' : News h₀ L h₃ ((I, oC') :: (I, oC') :: news) := fun p hp => by
      rcases List.mem_cons.mp hp with rfl | hp
      · exact ⟨eC, zC.2⟩
      · rcases List.mem_cons.mp hp with rfl | hp
        · exact ⟨eC, zC.2⟩
        · exact ⟨hs₃.extBut _ _ (off p hp).2 (N p (.tail _ (.tail _ hp))).1, (N p (.tail _ (.tail _ hp))).2⟩
    exact hQ h₃ _ oC' oC' _ (F.change hs₃ zC.2.1 zC.2.2) N3' hC' (hfr _ _ hst fun b o hb e => hs₃.extBut b o hb e) (by simp)
  · exact hQ h₃ _ oI oC' _ (F.change hs₃ zC.2.1 zC.2.2) (N₃ oI (hs₃.extBut _ _ ne (N _ (.head _)).1) ne) hC' (hfr _ _ hst fun b o hb e => hs₃.extBut b o hb e) (by simp)
noncomputable def Tup2 (news : List (Addr × Obj)) (v v₁ v₂ : Value) : Prop := ∃ t nt, v = .ref t ∧ (t, ({ cls := .type "tuple", data := .seq #[v₁, v₂] nt } : Obj)) ∈ news
noncomputable def Tup3 (news : List (Addr × Obj)) (v v₁ v₂ v₃ : Value) : Prop := ∃ t nt, v = .ref t ∧ (t, ({ cls := .type "tuple", data := .seq #[v₁, v₂, v₃] nt } : Obj)) ∈ news
noncomputable def ListIt (I : Addr) (h : Heap) : Prop := ∃ l j, h.IsListIter I l j
theorem binds_two {x₁ x₂ : Str} {p₁ p₂ tp : Pos} {kk : Nat} {scope : Scope} {cl : List (Str × Addr)} {I : Addr} (hkind : scope.kind = .function) (hx₁ : scope.names.lookup x₁ = some .local) (hx₂ : scope.names.lookup x₂ = some .local) (hne : x₁ ≠ x₂) (hh : A.handled = none) :
    BindsAll w A h₀ L m env scope cl (.Tuple [.Name x₁ p₁, .Name x₂ p₂] kk tp) I (ListIt I) (fun news v => ∃ v₁ v₂, Tup2 news v v₁ v₂) (fun news v m₃ => ∃ v₁ v₂, Tup2 news v v₁ v₂ ∧ m₃ x₁ = some v₁ ∧ m₃ x₂ = some v₂) := by
  intro C St hfr hli v s oI oC m₂ news Q E hT F N hC off hst hQ
  obtain ⟨v₁, v₂, t, nt, rfl, hm⟩ := hT
  obtain ⟨l, j, hit⟩ := hli _ hst
  have zC := N (C, oC) (.tail _ (.head _))
  have zt := N (t, _) (.tail _ (.tail _ hm))
  refine wpAny_letOwnedTupleGo_listiter hit ?_
  have ht : IsTup s.heap t #[v₁, v₂] := ⟨_, zt.1, rfl, nt, rfl⟩
  refine assign_Tuple_tuple hh ht rfl rfl fun h₁ he => ?_
  have he' : ∀ b o, s.heap.get? b = some o → h₁.get? b = some o := fun b o e => he b o (Nat.ne_of_lt (Heap.lt_size e)) e
  have hns : h₁.Ns (compEnvC scope cl C env).locals m₂ := hC.ns (he' _ _ zC.1)
  have hp : ∀ C, ((compEnvC scope cl C env).scope.kind == .class || ((compEnvC scope cl C env).scope.kind == .module && (compEnvC scope cl C env).locals != (compEnvC scope cl C env).globals)) = false := fun C => by simp [compEnvC, relabel, hkind]
  refine assignInOrder_cons (wpAny_assign_Name (wpAny_storeName_local (lookup_relabel_local hx₁) hns (fun h₂ hn₂ hs₂ => ?_) (hp C)))
  refine assignInOrder_cons (wpAny_assign_Name (wpAny_storeName_local (lookup_relabel_local hx₂) hn₂ (fun h₃ hn₃ hs₃ => ?_) (hp C)))
  refine assignInOrder_nil ?_
  obtain ⟨oC', eC, hC'⟩ := LCg.ns_obj hn₃
  have keep : ∀ b o, b ≠ C → s.heap.get? b = some o → h₃.get? b = some o := fun b o hb e => hs₃.extBut b o hb (hs₂.extBut b o hb (he' b o e))
  have hIC : @Ne Nat I C := by
    rintro (rfl : I = C)
    obtain ⟨o, ho, hc, hd2⟩ := hit
    obtain ⟨es, ep, hd, -⟩ := hC
    rw [zC.1] at ho
    cases ho
    rw [hd] at hd2
    cases hd2
  refine hQ h₃ _ oI oC' _ (((F.keeps he').change hs₂ zC.2.1 zC.2.2).change hs₃ zC.2.1 zC.2.2) (fun p hp => ?_) hC' (hfr _ _ hst keep) ⟨v₁, v₂, ⟨t, nt, rfl, hm⟩, by simp [hne], by simp⟩
  rcases List.mem_cons.mp hp with rfl | hp
  · exact ⟨keep _ _ hIC (N _ (.head _)).1, (N _ (.head _)).2⟩
  · rcases List.mem_cons.mp hp with rfl | hp
    · exact ⟨eC, zC.2⟩
    · exact ⟨keep _ _ (off p hp).2 (N p (.tail _ (.tail _ hp))).1, (N p (.tail _ (.tail _ hp))).2⟩
theorem binds_three {x₁ x₂ x₃ : Str} {p₁ p₂ p₃ tp : Pos} {kk : Nat} {scope : Scope} {cl : List (Str × Addr)} {I : Addr} (hkind : scope.kind = .function) (hx₁ : scope.names.lookup x₁ = some .local) (hx₂ : scope.names.lookup x₂ = some .local) (hx₃ : scope.names.lookup x₃ = some .local) (h12 : x₁ ≠ x₂) (h13 : x₁ ≠ x₃) (h23 : x₂ ≠ x₃) (hh : A.handled = none) :
    BindsAll w A h₀ L m env scope cl (.Tuple [.Name x₁ p₁, .Name x₂ p₂, .Name x₃ p₃] kk tp) I (ListIt I) (fun news v => ∃ v₁ v₂ v₃, Tup3 news v v₁ v₂ v₃) (fun news v m₃ => ∃ v₁ v₂ v₃, Tup3 news v v₁ v₂ v₃ ∧ m₃ x₁ = some v₁ ∧ m₃ x₂ = some v₂ ∧ m₃ x₃ = some v₃) := by
  intro C St hfr hli v s oI oC m₂ news Q E hT F N hC off hst hQ
  obtain ⟨v₁, v₂, v₃, t, nt, rfl, hm⟩ := hT
  obtain ⟨l, j, hit⟩ := hli _ hst
  have zC := N (C, oC) (.tail _ (.head _))
  have zt := N (t, _) (.tail _ (.tail _ hm))
  refine wpAny_letOwnedTupleGo_listiter hit ?_
  have ht : IsTup s.heap t #[v₁, v₂, v₃] := ⟨_, zt.1, rfl, nt, rfl⟩
  refine assign_Tuple_tuple hh ht rfl rfl fun h₁ he => ?_
  have he' : ∀ b o, s.heap.get? b = some o → h₁.get? b = some o := fun b o e => he b o (Nat.ne_of_lt (Heap.lt_size e)) e
  have hns : h₁.Ns (compEnvC scope cl C env).locals m₂ := hC.ns (he' _ _ zC.1)
  have hp : ∀ C, ((compEnvC scope cl C env).scope.kind == .class || ((compEnvC scope cl C env).scope.kind == .module && (compEnvC scope cl C env).locals != (compEnvC scope cl C env).globals)) = false := fun C => by simp [compEnvC, relabel, hkind]
  refine assignInOrder_cons (wpAny_assign_Name (wpAny_storeName_local (lookup_relabel_local hx₁) hns (fun h₂ hn₂ hs₂ => ?_) (hp C)))
  refine assignInOrder_cons (wpAny_assign_Name (wpAny_storeName_local (lookup_relabel_local hx₂) hn₂ (fun h₄ hn₄ hs₄ => ?_) (hp C)))
  refine assignInOrder_cons (wpAny_assign_Name (wpAny_storeName_local (lookup_relabel_local hx₃) hn₄ (fun h₃ hn₃ hs₃ => ?_) (hp C)))
  refine assignInOrder_nil ?_
  obtain ⟨oC', eC, hC'⟩ := LCg.ns_obj hn₃
  have keep : ∀ b o, b ≠ C → s.heap.get? b = some o → h₃.get? b = some o := fun b o hb e => hs₃.extBut b o hb (hs₄.extBut b o hb (hs₂.extBut b o hb (he' b o e)))
  have hIC : @Ne Nat I C := by
    rintro (rfl : I = C)
    obtain ⟨o, ho, hc, hd2⟩ := hit
    obtain ⟨es, ep, hd, -⟩ := hC
    rw [zC.1] at ho
    cases ho
    rw [hd] at hd2
    cases hd2
  refine hQ h₃ _ oI oC' _ ((((F.keeps he').change hs₂ zC.2.1 zC.2.2).change hs₄ zC.2.1 zC.2.2).change hs₃ zC.2.1 zC.2.2) (fun p hp => ?_) hC' (hfr _ _ hst keep) ⟨v₁, v₂, v₃, ⟨t, nt, rfl, hm⟩, by simp [h12, h13], by simp [h23], by simp⟩
  rcases List.mem_cons.mp hp with rfl | hp
  · exact ⟨keep _ _ hIC (N _ (.head _)).1, (N _ (.head _)).2⟩
  · rcases List.mem_cons.mp hp with rfl | hp
    · exact ⟨eC, zC.2⟩
    · exact ⟨keep _ _ (off p hp).2 (N p (.tail _ (.tail _ hp))).1, (N p (.tail _ (.tail _ hp))).2⟩
end
end
section
open PySem PySem.Spec PySem.Calls PySem.W PyProof.Rows
set_option maxRecDepth 100000
set_option maxHeartbeats 400000
noncomputable def EltOk (h₀ : Heap) (L : Addr) (m : Str → Option Value) (I : Addr) (oI : Obj) (C : Addr) (oC : Obj) (D : Addr) (oD : Obj) (Inv : List (Addr × Obj) → Array GenState → OsState → Prop) (s : Shared) : Prop :=
  ∃ news, Fr h₀ L s.heap m ∧ News h₀ L s.heap ((I, oI) :: (C, oC) :: (D, oD) :: news) ∧ LCg.Off3 I C D news ∧ Inv news s.gens s.os
/-- one turn of a comprehension's loop -/
noncomputable def CTurns (w : World) (A : Around) (h₀ : Heap) (L : Addr) (m : Str → Option Value) (env : Env) (elt : Expr) (ifs : List Expr) (scope : Scope) (cl : List (Str × Addr)) (n : Nat) (P : Nat → Value → Prop) (B : List (Addr × Obj) → Value → (Str → Option Value) → Prop) (Inv : Nat → List Value → List (Addr × Obj) → Array GenState → OsState → Prop) : Prop :=
  ∀ i ys v s I oI C oC D m₂ news E, i < n → ys.length ≤ i → P i v → Inv i ys news s.gens s.os → B ((D, LCg.lst ys) :: news) v m₂ → Fr h₀ L s.heap m → News h₀ L s.heap ((I, oI) :: (C, oC) :: (D, LCg.lst ys) :: news) → LCg.NsObj oC m₂ → LCg.Off3 I C D news → (@Ne Nat I C ∧ @Ne Nat I D ∧ @Ne Nat C D) →
    wpAny (model PG w) A (TestsOf ifs (compEnvC scope cl C env)) (fun ok s₃ => if ok = true then wpAny (model PG w) A (eval elt (compEnvC scope cl C env)) (fun y s₄ => EltOk h₀ L m I oI C oC D (LCg.lst ys) (Inv (i + 1) (ys ++ [y])) s₄) E s₃ else EltOk h₀ L m I oI C oC D (LCg.lst ys) (Inv (i + 1) ys) s₃) E s
section
variable {w : World} {A : Around} {E : Value → Shared → Prop} {s : Shared} {h₀ : Heap} {L : Addr} {m : Str → Option Value} {env : Env} {news : List (Addr × Obj)}
theorem comp_block {elt tgt iter : Expr} {ifs : List Expr} {scope : Scope} {cl : List (Str × Addr)} {pos : Pos} {I : Addr} {fp : List Addr} {n : Nat} {P : Nat → Value → Prop} {St : Nat → Heap → Prop} {S : List (Addr × Obj) → Prop} {Li : Heap → Prop}
    {T : List (Addr × Obj) → Value → Prop} {B : List (Addr × Obj) → Value → (Str → Option Value) → Prop} (Inv : Nat → List Value → List (Addr × Obj) → Array GenState → OsState → Prop) {RR : Value → Addr → Result → Shared → Prop}
    (W : Walks PG w A I fp [I] n P St) (hsz : n ≤ sizeLine) (hIo : ∀ i h, St i h → ∃ o, h.get? I = some o)
    (hSt : ∀ i h h' o nw, St i h → h.get? I = some o → h'.get? I = some o → (∀ b o, h₀.get? b = some o → h'.get? b = some o) → News h₀ L h' nw → S nw → St i h')
    (hcell : ∀ y ∈ scope.names, y.2 ≠ .cell) (hkind : scope.kind = .function) (hst : St 0 s.heap) (hfp : ∀ b ∈ fp, b < s.heap.objs.size)
    (F : Fr h₀ L s.heap m) (N : News h₀ L s.heap news) (hIL : L ≠ I) (hI0 : h₀.get? I = none) (off : ∀ p ∈ news, p.1 ≠ I)
    (hS : ∀ i ys D nw g o, Inv i ys nw g o → S ((D, LCg.lst ys) :: nw)) (hLi : ∀ i h, St i h → Li h) (hb : BindsAll w A h₀ L m env scope cl tgt I Li T B)
    (hT : ∀ i ys v D nw g o, i < n → P i v → Inv i ys nw g o → T ((D, LCg.lst ys) :: nw) v)
    (hI : Inv 0 [] news s.gens s.os) (hturn : CTurns w A h₀ L m env elt ifs scope cl n P B Inv)
    (hRR : ∀ D C s' oC m₂ ys nw, Fr h₀ L s'.heap m → News h₀ L s'.heap ((C, oC) :: (D, LCg.lst ys) :: nw) → LCg.NsObj oC m₂ → (∀ p ∈ nw, @Ne Nat p.1 C ∧ @Ne Nat p.1 D) → @Ne Nat C D → Inv n ys nw s'.gens s'.os → RR (.ref D) C (.ok .next) s') :
    wpAny (model PG w) A (newList []) (fun acc s₃ => wpAny (model PG w) A (newFunctionEnv scope env.globals cl [] env.qual none .none (some env)) (fun cenv s₄ =>
      codeAny (model PG w) A (.compStart (.ListComp elt [⟨tgt, iter, ifs, 0⟩] scope pos) 0 (.ref I) acc { cenv with scope := relabel scope env }) (RR acc cenv.locals) s₄) E s₃) E s := by
  refine wpAny_newObj_type (wpAny_newFunctionEnv hcell (by intro y hy; simp at hy) (fun h₁ hns₁ hsb₁ => ?_) hkind)
  dsimp only at hns₁ hsb₁ ⊢
  generalize hH2 : s.heap.push { cls := .type "list", dict := none, data := .seq ([] : List Value).toArray } = H2 at hns₁ hsb₁ ⊢
  have hC : H2.objs.size = s.heap.objs.size + 1 := by rw [← hH2, Heap.size_push]
  have hDC : @Ne Nat H2.objs.size s.heap.objs.size := by rw [hC]; exact Nat.succ_ne_self _
  have below : ∀ b, b < s.heap.objs.size → @Ne Nat b H2.objs.size ∧ @Ne Nat b s.heap.objs.size := fun b hb => ⟨by rw [hC]; exact Nat.ne_of_lt (Nat.lt_succ_of_lt hb), Nat.ne_of_lt hb⟩
  have old : ∀ b o, s.heap.get? b = some o → h₁.get? b = some o := fun b o e => hsb₁.extBut b o (below b (Heap.lt_size e)).1 (Heap.get?_push_of_some _ (hH2 ▸ Heap.get?_push_of_some _ e))
  have hacc : h₁.get? s.heap.objs.size = some (LCg.lst []) := hsb₁.extBut _ _ (Ne.symm hDC) (Heap.get?_push_of_some _ (hH2 ▸ Heap.get?_push_size _ rfl))
  have fresh₀ : ∀ a, s.heap.objs.size ≤ a → h₀.get? a = none := fun a ha => Heap.get?_none_of_le (Nat.le_trans (Nat.le_of_lt (Nat.lt_of_le_of_lt F.above F.ns.lt)) ha)
  have hD₀ := fresh₀ _ (Nat.le_refl s.heap.objs.size)
  have hC₀ := fresh₀ H2.objs.size (by rw [hC]; exact Nat.le_succ _)
  have hL := below L F.ns.lt
  obtain ⟨oI, heI⟩ := hIo _ _ hst
  have hI' := below I (Heap.lt_size heI)
  obtain ⟨oC, heC, hoC⟩ := LCg.ns_obj hns₁
  have hst₁ : St 0 h₁ := W.frame _ _ _ hst fun b _ o e => old b o e
  have hCfp : @Eq Nat H2.objs.size H2.objs.size := rfl
  have loop : ∀ s₃ : Shared, s₃ = { s with heap := h₁, toks := s.toks + ([] : List (Str × Value)).length } →
      codeAny (model PG w) A (.compLoop (.ListComp elt [⟨tgt, iter, ifs, 0⟩] scope pos) 0 (.ref I) (.ref s.heap.objs.size) (compEnvC scope cl H2.objs.size env)) (RR (.ref s.heap.objs.size) H2.objs.size) s₃ := by
    rintro s₃ rfl
    refine comp_walk (oI := oI) (C := H2.objs.size) (T := T) (B := B) turn_one S (fun i nw g o => ∃ ys nw', ys.length ≤ i ∧ nw = (s.heap.objs.size, LCg.lst ys) :: nw' ∧ LCg.Off3 I H2.objs.size s.heap.objs.size nw' ∧ Inv i ys nw' g o) W hIo hSt hIL hI0
      (fun i nw g o ⟨ys, nw', _, e, _, hI⟩ => e ▸ hS i ys _ nw' g o hI) (fun i hi => hb _ _ (fun h h' st k => ?_) (hLi (i + 1))) (fun i v nw g o hi hP ⟨ys, nw', _, e, _, hI⟩ => e ▸ hT i ys v _ nw' g o hi hP hI) (Ne.symm hI'.1) ?_ ?_ ?_ hst₁
    · refine W.frame _ _ _ st fun b hb o e => k b o ?_ e
      exact (below b (hfp b hb)).1
    · intro i v s₁ oI' oC' m₂ nw E' hi hP ⟨ys, nw', hys, e, hoff, hI⟩ hB F' N' hC' off'
      subst e
      have ne3 : @Ne Nat I H2.objs.size ∧ @Ne Nat I s.heap.objs.size ∧ @Ne Nat H2.objs.size s.heap.objs.size := ⟨hI'.1, hI'.2, hDC⟩
      refine wpAny_mono (hturn i ys v s₁ I oI' _ oC' _ m₂ nw' E' hi hys hP hI hB F' N' hC' hoff ne3) (fun ok s₃ h₃ => ?_) fun _ _ x => x
      cases ok with
      | false =>
        obtain ⟨nw₄, F₄, N₄, off₄, I₄⟩ := h₃
        refine ⟨oC', m₂, _, F₄, N₄, hC', fun p hp => ?_, ys, nw₄, Nat.le_succ_of_le hys, rfl, off₄, I₄⟩
        rcases List.mem_cons.mp hp with rfl | hp
        · exact ⟨Ne.symm ne3.2.1, Ne.symm ne3.2.2⟩
        · exact ⟨(off₄.mem p hp).1, (off₄.mem p hp).2.1⟩
      | true =>
        refine tail_app (wpAny_mono h₃ (fun y s₄ h₄ => ?_) fun _ _ x => x)
        obtain ⟨nw₄, F₄, N₄, off₄, I₄⟩ := h₄
        have zI := N₄ (I, oI') (.head _)
        have zC := N₄ (H2.objs.size, oC') (.tail _ (.head _))
        have zD := N₄ (s.heap.objs.size, LCg.lst ys) (.tail _ (.tail _ (.head _)))
        refine append_at (hsz := by show ys.toArray.size ≤ sizeLine; rw [List.size_toArray]; (first | lia | omega)) zD.1 fun h₅ hs₅ hD₅ => ?_
        refine ⟨oC', m₂, (s.heap.objs.size, LCg.lst (ys ++ [y])) :: nw₄, F₄.change hs₅ zD.2.1 zD.2.2, fun p hp => ?_, hC', fun p hp => ?_, ys ++ [y], nw₄, by rw [List.length_append, List.length_singleton]; (first | lia | omega), rfl, off₄, I₄⟩
        · rcases List.mem_cons.mp hp with rfl | hp
          · exact ⟨hs₅.extBut _ _ ne3.2.1 zI.1, zI.2⟩
          · rcases List.mem_cons.mp hp with rfl | hp
            · exact ⟨hs₅.extBut _ _ ne3.2.2 zC.1, zC.2⟩
            · rcases List.mem_cons.mp hp with rfl | hp
              · exact ⟨hD₅.trans (congrArg some (LCg.lst_snoc ys y)), zD.2⟩
              · exact ⟨hs₅.extBut _ _ (off₄.mem p hp).2.2 (N₄ p (.tail _ (.tail _ (.tail _ hp)))).1, (N₄ p (.tail _ (.tail _ (.tail _ hp)))).2⟩
        · rcases List.mem_cons.mp hp with rfl | hp
          · exact ⟨Ne.symm ne3.2.1, Ne.symm ne3.2.2⟩
          · exact ⟨(off₄.mem p hp).1, (off₄.mem p hp).2.1⟩
    · intro h' tk s₁ oC' m₂ nw hs F' N' hC' off' ⟨ys, nw', _, e, hoff, hI⟩
      subst e
      rw [hs]
      exact hRR _ _ _ oC' m₂ ys nw' F' N' hC' (fun p hp => ⟨(hoff.mem p hp).2.1, (hoff.mem p hp).2.2⟩) hDC hI
    · refine ⟨oC, _, (s.heap.objs.size, LCg.lst []) :: news, F.keeps old, fun p hp => ?_, hoC, fun p hp => ?_, [], news, Nat.le_refl _, rfl, LCg.Off3.of fun p hp => ⟨off p hp, (below _ (Heap.lt_size (N p hp).1)).1, (below _ (Heap.lt_size (N p hp).1)).2⟩, hI⟩
      · rcases List.mem_cons.mp hp with rfl | hp
        · exact ⟨old _ _ heI, Ne.symm hIL, hI0⟩
        · rcases List.mem_cons.mp hp with rfl | hp
          · exact ⟨heC, Ne.symm hL.1, hC₀⟩
          · rcases List.mem_cons.mp hp with rfl | hp
            · exact ⟨hacc, Ne.symm hL.2, hD₀⟩
            · exact ⟨old _ _ (N p hp).1, (N p hp).2⟩
      · rcases List.mem_cons.mp hp with rfl | hp
        · exact ⟨Ne.symm hI'.2, Ne.symm hDC⟩
        · exact ⟨off p hp, (below _ (Heap.lt_size (N p hp).1)).1⟩
  exact codeAny_compStart_list (loop _ rfl) (W.self 0 _ _ _ hst₁ (loop _ rfl))
end
end
section
open PySem PySem.Spec PySem.Calls PySem.W PyProof.Rows
set_option maxRecDepth 100000
set_option maxHeartbeats 400000
noncomputable abbrev FinT := Addr → List Value → List (Addr × Obj) → Shared → Prop
noncomputable def RROk (h₀ : Heap) (L : Addr) (m : Str → Option Value) (Fin : FinT) (RR : Value → Addr → Result → Shared → Prop) : Prop :=
  ∀ D C s' oC m₂ ys nw, Fr h₀ L s'.heap m → News h₀ L s'.heap ((C, oC) :: (D, LCg.lst ys) :: nw) → LCg.NsObj oC m₂ → (∀ p ∈ nw, @Ne Nat p.1 C ∧ @Ne Nat p.1 D) → @Ne Nat C D → Fin D ys nw s' → RR (.ref D) C (.ok .next) s'
noncomputable def CompOf (w : World) (A : Around) (E : Value → Shared → Prop) (h₀ : Heap) (L : Addr) (m : Str → Option Value) (env : Env) (elt tgt iter : Expr) (ifs : List Expr) (scope : Scope) (cl : List (Str × Addr)) (pos : Pos) (Fin : FinT) (xv : Value) (s : Shared) : Prop :=
  ∀ RR, RROk h₀ L m Fin RR → wpAny (model PG w) A (pyIter xv) (fun it s₂ => wpAny (model PG w) A (newList []) (fun acc s₃ => wpAny (model PG w) A (newFunctionEnv scope env.globals cl [] env.qual none .none (some env)) (fun cenv s₄ =>
      codeAny (model PG w) A (.compStart (.ListComp elt [⟨tgt, iter, ifs, 0⟩] scope pos) 0 it acc { cenv with scope := relabel scope env }) (RR acc cenv.locals) s₄) E s₃) E s₂) E s
noncomputable def FinGE (h₀ : Heap) (L : Addr) (m : Str → Option Value) (Q : Value → Shared → Prop) : FinT := fun D ys nw s' =>
  ∀ h', Fr h₀ L h' m → News h₀ L h' ((D, LCg.lst ys) :: nw) → (∀ p ∈ nw, @Ne Nat p.1 D) → Q (.ref D) { s' with heap := h' }
noncomputable def FinGA (h₀ : Heap) (L : Addr) (m : Str → Option Value) (y : Str) (Q : Flow → Shared → Prop) : FinT := fun D ys nw s' =>
  ∀ h' tk, Fr h₀ L h' (updM m y (.ref D)) → News h₀ L h' ((D, LCg.lst ys) :: nw) → (∀ p ∈ nw, @Ne Nat p.1 D) → Q .next { s' with heap := h', toks := tk }
section
variable {w : World} {A : Around} {E : Value → Shared → Prop} {s : Shared} {h₀ : Heap} {L : Addr} {m : Str → Option Value} {env : Env} {news : List (Addr × Obj)}
theorem rr_E {Q : Value → Shared → Prop} : RROk h₀ L m (FinGE h₀ L m Q) (fun acc C => compPost (model PG w) A E none Q acc C) := by
  intro D C s' oC m₂ ys nw F N hC off hCD fin
  have zC := N (C, oC) (.head _)
  refine ⟨m₂, hC.ns zC.1, fun h'' hs'' => fin h'' (F.change hs'' zC.2.1 zC.2.2) (fun p hp => ?_) fun p hp => (off p hp).2⟩
  have z := N p (.tail _ hp)
  refine ⟨hs''.extBut _ _ ?_ z.1, z.2⟩
  rcases List.mem_cons.mp hp with rfl | hp
  · exact Ne.symm hCD
  · exact (off p hp).1
theorem rr_A {y : Str} {py : Pos} {Q : Flow → Shared → Prop} (hLe : env.locals = L) (hy : env.kindOf y = some .local) (hp : (env.scope.kind == .class || (env.scope.kind == .module && env.locals != env.globals)) = false) :
    RROk h₀ L m (FinGA h₀ L m y Q) (fun acc C => compPost (model PG w) A E (some (assign (.Name y py) env)) (fun _ s' => Q .next s') acc C) := by
  subst hLe
  intro D C s' oC m₂ ys nw F N hC off hCD fin
  have zC := N (C, oC) (.head _)
  show wpAny _ A (assign (.Name y py) env (.ref D)) _ _ _
  refine wpAny_assign_Name (wpAny_storeName_local hy F.ns (fun h₂ hn₂ hs₂ => ?_) hp)
  have hL₀ : h₀.get? env.locals = none := Heap.get?_none_of_le F.above
  have F₂ : Fr h₀ env.locals h₂ (updM m y (.ref D)) := ⟨hn₂, fun b o e => hs₂.extBut b o (fun q => by rw [q, hL₀] at e; cases e) (F.keep b o e), F.above⟩
  refine ⟨m₂, (hC.ns zC.1).sameBut hs₂ zC.2.1, fun h'' hs'' => fin h'' _ (F₂.change hs'' zC.2.1 zC.2.2) (fun p hp => ?_) fun p hp => (off p hp).2⟩
  have z := N p (.tail _ hp)
  refine ⟨hs''.extBut _ _ ?_ (hs₂.extBut _ _ z.2.1 z.1), z.2⟩
  rcases List.mem_cons.mp hp with rfl | hp
  · exact Ne.symm hCD
  · exact (off p hp).1
theorem ListComp_G {elt tgt iter : Expr} {ifs : List Expr} {scope : Scope} {cl : List (Str × Addr)} {pos : Pos} {Q : Value → Shared → Prop} (F₀ : Fr h₀ L s.heap m)
    (hclos : closureFor scope env = pure cl) (hkind : scope.kind = .function)
    (hnames : ∀ y ∈ scope.names, y.2 = .local → scope.names.lookup y.1 = some .local)
    (h : wpAny (model PG w) A (eval iter env) (CompOf w A E h₀ L m env elt tgt iter ifs scope cl pos (FinGE h₀ L m Q)) E s)
    (hs : ∀ x, foldedSetIterable iter env x = pure x := by intro _; rfl) :
    wpAny (model PG w) A (eval (.ListComp elt [⟨tgt, iter, ifs, 0⟩] scope pos) env) Q E s := by
  rw [eval_ListComp]
  exact wpAny_comprehension_free (use := none) rfl hs hclos hkind hnames (wpAny_mono h (fun xv s₁ h₁ => h₁ _ rr_E) fun _ _ e => e)
theorem Assign_ListComp_G {elt tgt iter : Expr} {ifs : List Expr} {y : Str} {py : Pos} {scope : Scope} {cl : List (Str × Addr)} {pos spos : Pos} {Q : Flow → Shared → Prop} (F₀ : Fr h₀ L s.heap m) (hLe : env.locals = L)
    (hsw : swapsWith (.ListComp elt [⟨tgt, iter, ifs, 0⟩] scope pos) (some (.Name y py)) spos.line env = pure true)
    (hclos : closureFor scope env = pure cl) (hkind : scope.kind = .function)
    (hnames : ∀ z ∈ scope.names, z.2 = .local → scope.names.lookup z.1 = some .local)
    (hy : env.kindOf y = some .local) (hp : (env.scope.kind == .class || (env.scope.kind == .module && env.locals != env.globals)) = false)
    (h : wpAny (model PG w) A (eval iter env) (CompOf w A E h₀ L m env elt tgt iter ifs scope cl pos (FinGA h₀ L m y Q)) E s)
    (hs : ∀ x, foldedSetIterable iter env x = pure x := by intro _; rfl) :
    wpAny (model PG w) A (exec (.Assign [.Name y py] (.ListComp elt [⟨tgt, iter, ifs, 0⟩] scope pos) spos) env) Q E s := by
  rw [exec_Assign_Name_used _ _ _ _ hsw]
  refine wpAny_bind (wpAny_standAt (wpAny_bind ?_))
  show wpAny _ A (do let _ ← comprehension (.ListComp elt [⟨tgt, iter, ifs, 0⟩] scope pos) scope env _ (newList []) false (eval iter env) (some (assign (.Name y py) env))) _ _ s
  exact wpAny_bind (wpAny_mono (wpAny_comprehension_free (use := some (assign (.Name y py) env)) (Q := fun _ s' => Q .next s') rfl hs hclos hkind hnames
    (wpAny_mono h (fun xv s₁ h₁ => h₁ _ (rr_A hLe hy hp)) fun _ _ e => e)) (fun _ s' hq => wpAny_pure (wpAny_pure hq)) fun _ _ e => e)
theorem comp_list {elt tgt iter : Expr} {ifs : List Expr} {scope : Scope} {cl : List (Str × Addr)} {pos : Pos} {Fin : FinT} {l : Addr} {vs : Array Value} {c : Nat}
    {T : List (Addr × Obj) → Value → Prop} {B : List (Addr × Obj) → Value → (Str → Option Value) → Prop} (Inv : Nat → List Value → List (Addr × Obj) → Array GenState → OsState → Prop)
    (hb : ∀ I, BindsAll w A h₀ L m env scope cl tgt I (ListIt I) T B)
    (hl : (l, listOf vs c) ∈ news) (hz : vs.size ≤ 1000) (hh : A.handled = none) (F : Fr h₀ L s.heap m) (N : News h₀ L s.heap news)
    (hcell : ∀ y ∈ scope.names, y.2 ≠ .cell) (hkind : scope.kind = .function)
    (hS : ∀ i ys nw g o, Inv i ys nw g o → (l, listOf vs c) ∈ nw)
    (hT : ∀ i ys v D nw g o, i < vs.size → vs[i]? = some v → Inv i ys nw g o → T ((D, LCg.lst ys) :: nw) v)
    (hI : Inv 0 [] news s.gens s.os) (hturn : CTurns w A h₀ L m env elt ifs scope cl vs.size (fun i v => vs[i]? = some v) B Inv)
    (hfin : ∀ D ys nw s', Inv vs.size ys nw s'.gens s'.os → Fin D ys nw s') :
    CompOf w A E h₀ L m env elt tgt iter ifs scope cl pos Fin (.ref l) s := by
  intro RR hRR
  have hlst : s.heap.IsList l vs := ⟨_, (N _ hl).1, rfl, _, rfl⟩
  have hlt : @LT.lt Nat _ l s.heap.objs.size := Heap.lt_size (N _ hl).1
  refine wpAny_pyIter_list hlst ?_
  refine comp_block (S := fun nw => (l, listOf vs c) ∈ nw) (Li := ListIt s.heap.objs.size) (T := T) (B := B) Inv (Walks.list hh s.heap.objs.size l (Nat.ne_of_lt hlt) vs) (by rw [sizeLine_eq]; (first | lia | omega)) (fun i h st => by obtain ⟨o, e, _⟩ := st.1; exact ⟨o, e⟩)
    (fun i h h' o nw st e e' _ N' hm => ⟨by obtain ⟨o', q, r⟩ := st.1; rw [e] at q; cases q; exact ⟨o, e', r⟩, ⟨_, (N' _ hm).1, rfl, _, rfl⟩⟩) hcell hkind ⟨⟨_, Heap.get?_push_size _ rfl, rfl, rfl⟩, hlst.push _⟩ (fun b hb => ?_)
    (F.push _) (N.grown fun b o e => Heap.get?_push_of_some _ e) (Nat.ne_of_lt F.ns.lt) (next_is_new F) (fun p hp => Nat.ne_of_lt (Heap.lt_size (N p hp).1)) (fun i ys D nw g o h => .tail _ (hS i ys nw g o h))
    (fun i h st => ⟨_, _, st.1⟩) (hb _) hT hI hturn fun D C s' oC m₂ ys nw F' N' hC off ne hI' => hRR D C s' oC m₂ ys nw F' N' hC off ne (hfin D ys nw s' hI')
  show b < (s.heap.push _).objs.size
  rw [Heap.size_push]
  rcases List.mem_cons.mp hb with rfl | hb
  · exact Nat.lt_succ_self _
  · rw [List.mem_singleton.mp hb]; exact Nat.lt_succ_of_lt hlt
theorem comp_range {elt tgt iter : Expr} {ifs : List Expr} {scope : Scope} {cl : List (Str × Addr)} {pos : Pos} {Fin : FinT} {r : Addr} {a b : Int} {t u v : Tok} {n : Nat}
    {T : List (Addr × Obj) → Value → Prop} {B : List (Addr × Obj) → Value → (Str → Option Value) → Prop} (Inv : Nat → List Value → List (Addr × Obj) → Array GenState → OsState → Prop)
    (hb : ∀ I, BindsAll w A h₀ L m env scope cl tgt I (fun _ => True) T B)
    (hr : IsRange s.heap r a b 1 t u v) (hn : Builtin.Range.rangeSize a b 1 = (n : Int)) (hsm : Builtin.Range.small a b 1 = true) (hz : n ≤ 1000) (hh : A.handled = none) (F : Fr h₀ L s.heap m) (N : News h₀ L s.heap news)
    (hcell : ∀ y ∈ scope.names, y.2 ≠ .cell) (hkind : scope.kind = .function)
    (hT : ∀ i ys v D nw g o, i < n → (∃ t, v = .int (a + i) t) → Inv i ys nw g o → T ((D, LCg.lst ys) :: nw) v)
    (hI : Inv 0 [] news s.gens s.os) (hturn : CTurns w A h₀ L m env elt ifs scope cl n (fun i v => ∃ t, v = .int (a + i) t) B Inv)
    (hfin : ∀ D ys nw s', Inv n ys nw s'.gens s'.os → Fin D ys nw s') :
    CompOf w A E h₀ L m env elt tgt iter ifs scope cl pos Fin (.ref r) s := by
  intro RR hRR
  refine wpAny_pyIter_range hr hsm ?_
  refine comp_block (S := fun _ => True) (Li := fun _ => True) (T := T) (B := B) Inv (LCg.range_walks hh a n) (by rw [sizeLine_eq]; (first | lia | omega)) (fun i h st => ⟨_, st⟩)
    LCg.range_st hcell hkind (by show IsRangeIter _ _ _ _ _; rw [hn]; simpa using Heap.get?_push_size _ rfl) (fun b hb => ?_)
    (F.push _) (N.grown fun b o e => Heap.get?_push_of_some _ e) (Nat.ne_of_lt F.ns.lt) (next_is_new F) (fun p hp => Nat.ne_of_lt (Heap.lt_size (N p hp).1)) (fun i ys D nw g o h => trivial)
    (fun i h st => trivial) (hb _) hT hI hturn fun D C s' oC m₂ ys nw F' N' hC off ne hI' => hRR D C s' oC m₂ ys nw F' N' hC off ne (hfin D ys nw s' hI')
  rw [List.mem_singleton.mp hb]
  show s.heap.objs.size < (s.heap.push _).objs.size
  rw [Heap.size_push]; exact Nat.lt_succ_self _
end
end
section
open PySem PySem.Spec PySem.Calls PySem.W PyProof.Rows
set_option maxRecDepth 100000
set_option maxHeartbeats 400000
theorem size_dec {k : Nat} {a : Int} (e : a = (k : Int)) : Builtin.Range.rangeSize a 0 (-1) = (k : Int) := by
  subst e
  unfold Builtin.Range.rangeSize
  simp
  (first | lia | omega)
theorem small_dec {k : Nat} {a : Int} (e : a = (k : Int)) (hk : k ≤ 900) : Builtin.Range.small a 0 (-1) = true := by
  unfold Builtin.Range.small
  rw [size_dec e, e]
  simp [Builtin.Range.rangeFitsLong]
  (first | lia | omega)
theorem size_ab {n : Nat} {a b : Int} (e : b - a = (n : Int)) : Builtin.Range.rangeSize a b 1 = (n : Int) := by
  unfold Builtin.Range.rangeSize
  simp
  split <;> (first | lia | omega)
theorem small_ab {n : Nat} {a b : Int} (e : b - a = (n : Int)) (ha : 0 ≤ a) (hb : b ≤ 900) : Builtin.Range.small a b 1 = true := by
  unfold Builtin.Range.small
  rw [size_ab e]
  simp [Builtin.Range.rangeFitsLong]
  (first | lia | omega)
theorem intsAre_snoc {x : Int} {t : Tok} : ∀ {vs : List Value} {ns : List Int}, IntsAre vs ns → IntsAre (vs ++ [.int x t]) (ns ++ [x])
  | _, _, .nil => .cons x t .nil
  | _, _, .cons n u r => .cons n u (intsAre_snoc r)
theorem intsAre_len : ∀ {vs : List Value} {ns : List Int}, IntsAre vs ns → vs.length = ns.length
  | _, _, .nil => rfl
  | _, _, .cons n u r => by simp [intsAre_len r]
theorem intsAre_at : ∀ {vs : List Value} {ns : List Int}, IntsAre vs ns → ∀ i (h : i < ns.length), ∃ t, vs[i]? = some (.int ns[i] t)
  | _, _, .nil, i, h => by cases h
  | _, _, .cons n u r, 0, _ => ⟨u, rfl⟩
  | _, _, .cons n u r, i + 1, h => by
    obtain ⟨t, e⟩ := intsAre_at r i (by simpa using h)
    exact ⟨t, by simpa using e⟩
theorem intsAre_L {vs : List Value} {ks : List Nat} (h : IntsAre vs (ks.map fun (k : Nat) => (k : Int))) : IntsL vs.toArray ks := by
  refine ⟨by rw [List.size_toArray, intsAre_len h, List.length_map], fun i hi => ?_⟩
  obtain ⟨t, e⟩ := intsAre_at h i (by simpa using hi)
  exact ⟨t, by simpa using e⟩
theorem intsL_are {vs : Array Value} {ks : List Nat} (h : IntsL vs ks) : IntsAre vs.toList (ks.map fun (k : Nat) => (k : Int)) := by
  have key : ∀ (xs : List Value) (ks : List Nat), xs.length = ks.length → (∀ i (hi : i < ks.length), ∃ tk, xs[i]? = some (.int (ks[i] : Int) tk)) → IntsAre xs (ks.map fun (k : Nat) => (k : Int)) := by
    intro xs
    induction xs with
    | nil => intro ks hl _; cases ks with
      | nil => exact .nil
      | cons _ _ => cases hl
    | cons x xs ih =>
      intro ks hl hx
      cases ks with
      | nil => cases hl
      | cons k ks =>
        obtain ⟨t, e⟩ := hx 0 (by simp)
        have e' : x = .int (k : Int) t := by simpa using e
        subst e'
        exact .cons _ _ (ih ks (by simpa using hl) fun i hi => by
          obtain ⟨t', e'⟩ := hx (i + 1) (by simpa using hi)
          exact ⟨t', by simpa using e'⟩)
  refine key _ _ (by rw [Array.length_toList]; exact h.1) fun i hi => ?_
  obtain ⟨t, e⟩ := h.2 i hi
  exact ⟨t, by rw [Array.getElem?_toList]; exact e⟩
theorem sum_cast (ks : List Nat) : (ks.map fun (k : Nat) => (k : Int)).sum = ((ks.sum : Nat) : Int) := by
  induction ks with
  | nil => rfl
  | cons k ks ih => simp [ih]
section
variable {w : World} {A : Around} {E : Value → Shared → Prop} {s : Shared} {h₀ : Heap} {L : Addr} {m : Str → Option Value} {env : Env} {news : List (Addr × Obj)}
theorem sumN_K {l : Addr} {its : Array Value} {n : Nat} {ks : List Nat} {Q : Value → Shared → Prop} (F : Fr h₀ L s.heap m) (N : News h₀ L s.heap news) (hl : (l, listOf its n) ∈ news) (hi : IntsL its ks) (hh : A.handled = none)
    (h : ∀ h' tk t', Fr h₀ L h' m → News h₀ L h' news → Q (.int ((ks.sum : Nat) : Int) t') { s with heap := h', toks := tk }) : wpAny (model PG w) A (call (.builtin "sum") [.ref l]) Q E s := by
  refine LSm.sum_ints (vs := its.toList) (ns := ks.map fun (k : Nat) => (k : Int)) F N hh ⟨_, (N _ hl).1, rfl, n, by simp⟩ (intsL_are hi) ?_
  rw [sum_cast]
  exact h
theorem maxN_K {l : Addr} {its : Array Value} {n : Nat} {ks : List Nat} {Q : Value → Shared → Prop} (F : Fr h₀ L s.heap m) (N : News h₀ L s.heap news) (hl : (l, listOf its n) ∈ news) (hi : IntsL its ks) (hne : 0 < ks.length) (hh : A.handled = none)
    (h : ∀ h' tk t', Fr h₀ L h' m → News h₀ L h' news → Q (.int ((ks.foldl max 0 : Nat) : Int) t') { s with heap := h', toks := tk }) : wpAny (model PG w) A (call (.builtin "max") [.ref l]) Q E s := by
  refine kso_max (vs := its.toList) (ns := ks.map fun (k : Nat) => (k : Int)) F N ⟨_, (N _ hl).1, rfl, n, by simp⟩ (intsL_are hi) (by simpa using hne) hh fun h' M t tk F' N' hM hle => ?_
  have key : ∀ (ks : List Nat) (b : Nat), (∀ k ∈ ks, k ≤ ks.foldl max b) ∧ b ≤ ks.foldl max b ∧ (ks.foldl max b = b ∨ ks.foldl max b ∈ ks) := by
    intro ks
    induction ks with
    | nil => intro b; simp
    | cons k ks ih =>
      intro b
      obtain ⟨h1, h2, h3⟩ := ih (max b k)
      simp only [List.foldl_cons]
      refine ⟨fun x hx => ?_, by (first | lia | omega), ?_⟩
      · rcases List.mem_cons.mp hx with rfl | hx
        · (first | lia | omega)
        · exact h1 x hx
      · rcases h3 with h3 | h3
        · by_cases hb : k ≤ b
          · left; (first | lia | omega)
          · right; rw [h3]; exact List.mem_cons.mpr (.inl (by (first | lia | omega)))
        · right; exact .tail _ h3
  obtain ⟨k1, -, k3⟩ := key ks 0
  obtain ⟨a, ha, rfl⟩ := List.mem_map.mp hM
  have h5 : ks.foldl max 0 ≤ a := by
    rcases k3 with k3 | k3
    · (first | lia | omega)
    · have := hle _ (List.mem_map.mpr ⟨_, k3, rfl⟩); (first | lia | omega)
  have h4 := k1 a ha
  have e : a = ks.foldl max 0 := by (first | lia | omega)
  have h6 := h h' tk t F' N'
  rw [← e] at h6
  exact h6
theorem cturns_nil {elt : Expr} {scope : Scope} {cl : List (Str × Addr)} {n : Nat} {P : Nat → Value → Prop} {B : List (Addr × Obj) → Value → (Str → Option Value) → Prop} {Inv : Nat → List Value → List (Addr × Obj) → Array GenState → OsState → Prop}
    (h : ∀ i ys v s I oI C oC D m₂ news E, i < n → ys.length ≤ i → P i v → Inv i ys news s.gens s.os → B ((D, LCg.lst ys) :: news) v m₂ → Fr h₀ L s.heap m → News h₀ L s.heap ((I, oI) :: (C, oC) :: (D, LCg.lst ys) :: news) → LCg.NsObj oC m₂ → LCg.Off3 I C D news → (@Ne Nat I C ∧ @Ne Nat I D ∧ @Ne Nat C D) →
      wpAny (model PG w) A (eval elt (compEnvC scope cl C env)) (fun y s₄ => EltOk h₀ L m I oI C oC D (LCg.lst ys) (Inv (i + 1) (ys ++ [y])) s₄) E s) : CTurns w A h₀ L m env elt [] scope cl n P B Inv := by
  intro i ys v s I oI C oC D m₂ news E h1 h2 h3 h4 h5 h6 h7 h8 h9 h10
  refine wpAny_tests_nil ?_
  exact h i ys v s I oI C oC D m₂ news E h1 h2 h3 h4 h5 h6 h7 h8 h9 h10
theorem cturns_one {elt c : Expr} {scope : Scope} {cl : List (Str × Addr)} {n : Nat} {P : Nat → Value → Prop} {B : List (Addr × Obj) → Value → (Str → Option Value) → Prop} {Inv : Nat → List Value → List (Addr × Obj) → Array GenState → OsState → Prop}
    (h : ∀ i ys v s I oI C oC D m₂ news E, i < n → ys.length ≤ i → P i v → Inv i ys news s.gens s.os → B ((D, LCg.lst ys) :: news) v m₂ → Fr h₀ L s.heap m → News h₀ L s.heap ((I, oI) :: (C, oC) :: (D, LCg.lst ys) :: news) → LCg.NsObj oC m₂ → LCg.Off3 I C D news → (@Ne Nat I C ∧ @Ne Nat I D ∧ @Ne Nat C D) →
      wpAny (model PG w) A (isTrue c (compEnvC scope cl C env) (eval c (compEnvC scope cl C env))) (fun ok s₃ => if ok = true then wpAny (model PG w) A (eval elt (compEnvC scope cl C env)) (fun y s₄ => EltOk h₀ L m I oI C oC D (LCg.lst ys) (Inv (i + 1) (ys ++ [y])) s₄) E s₃ else EltOk h₀ L m I oI C oC D (LCg.lst ys) (Inv (i + 1) ys) s₃) E s) : CTurns w A h₀ L m env elt [c] scope cl n P B Inv := by
  intro i ys v s I oI C oC D m₂ news E h1 h2 h3 h4 h5 h6 h7 h8 h9 h10
  refine wpAny_tests_one ?_
  exact h i ys v s I oI C oC D m₂ news E h1 h2 h3 h4 h5 h6 h7 h8 h9 h10
end
end
section
open PySem PySem.Spec PySem.Calls PySem.W PyProof.Rows
set_option maxRecDepth 100000
set_option maxHeartbeats 0
structure WSt where
  n : Nat
  b : Nat
  nt : Nat
  cnt : List Nat
noncomputable def bump (cnt : List Nat) (b : Nat) : List Nat := (cnt ++ List.replicate (b + 1 - cnt.length) 0).set b ((cnt ++ List.replicate (b + 1 - cnt.length) 0).getD b 0 + 1)
noncomputable def wsStep (s : WSt) (c : Nat) : WSt := if c = 32 then ⟨s.n + 1, s.b + 1, s.nt, s.cnt⟩ else ⟨s.n + 1, 0, s.nt + 1, bump s.cnt s.b⟩
noncomputable def wsRun (l : List Nat) : WSt := l.foldl wsStep ⟨0, 0, 0, []⟩
theorem bump_len (cnt : List Nat) (b : Nat) : (bump cnt b).length = max cnt.length (b + 1) := by
  unfold bump
  rw [List.length_set, List.length_append, List.length_replicate]
  (first | lia | omega)
theorem wsRun_snoc (l : List Nat) (c : Nat) : wsRun (l ++ [c]) = wsStep (wsRun l) c := by unfold wsRun; rw [List.foldl_append]; rfl
theorem wsRun_le (l : List Nat) : (wsRun l).n ≤ l.length ∧ (wsRun l).b ≤ l.length ∧ (wsRun l).nt ≤ l.length ∧ (wsRun l).cnt.length ≤ l.length := by
  have key : ∀ (l : List Nat) (s : WSt) (k : Nat), s.n ≤ k → s.b ≤ k → s.nt ≤ k → s.cnt.length ≤ k → (l.foldl wsStep s).n ≤ k + l.length ∧ (l.foldl wsStep s).b ≤ k + l.length ∧ (l.foldl wsStep s).nt ≤ k + l.length ∧ (l.foldl wsStep s).cnt.length ≤ k + l.length := by
    intro l
    induction l with
    | nil => intro s k h1 h2 h3 h4; exact ⟨h1, h2, h3, h4⟩
    | cons c l ih =>
      intro s k h1 h2 h3 h4
      rw [List.foldl_cons, List.length_cons, show k + (l.length + 1) = (k + 1) + l.length by (first | lia | omega)]
      apply ih
      all_goals (unfold wsStep; split <;> simp only [bump_len] <;> (first | lia | omega))
  have := key l ⟨0, 0, 0, []⟩ 0 (by simp) (by simp) (by simp) (by simp)
  simpa [wsRun] using this
theorem take_snoc {l : List Nat} {i : Nat} (h : i < l.length) : l.take (i + 1) = l.take i ++ [l[i]] := by rw [List.take_add_one, List.getElem?_eq_getElem h]; rfl
noncomputable abbrev wsObj (x : Str) (n nt : Nat) (T1 : Addr) (b : Bool) (a1 a2 a3 a4 a5 : Int) (t1 t2 t3 t4 t5 kx kn knt : Tok) : Obj := dictOf [⟨a1, .str (Str.ofString "raw") t1, .str x kx⟩, ⟨a2, .str (Str.ofString "n") t2, .int (n : Int) kn⟩, ⟨a3, .str (Str.ofString "nt") t3, .int (nt : Int) knt⟩, ⟨a4, .str (Str.ofString "norm") t4, .ref T1⟩, ⟨a5, .str (Str.ofString "is_simple") t5, .bool b⟩] 5
noncomputable abbrev tupOf (ws : Array Value) : Obj := { cls := .type "tuple", data := .seq ws }
theorem drop_23 {g h : Heap} {L : Addr} {a b c d : Addr × Obj} {l : List (Addr × Obj)} (N : News g L h (a :: b :: c :: d :: l)) : News g L h (a :: b :: l) := cb_drop N (by intro p hp; rcases List.mem_cons.mp hp with rfl | hp; exact .head _; rcases List.mem_cons.mp hp with rfl | hp; exact .tail _ (.head _); exact .tail _ (.tail _ (.tail _ (.tail _ hp))))
theorem pad_ints {g h : Heap} {L q : Addr} {ws : Array Value} {cnt : List Nat} {c n : Nat} {kt : Tok} {rest : List (Addr × Obj)} (_N : News g L h ((q, listOf (ws.toList ++ ((List.replicate c (Value.int 0 kt)).toArray).toList).toArray n) :: rest)) (hws : IntsL ws cnt) : IntsL (ws.toList ++ ((List.replicate c (Value.int 0 kt)).toArray).toList).toArray (cnt ++ List.replicate c 0) := hws.app (IntsL.rep0 rfl)
structure LocW (m : Str → Option Value) (cl pa : Addr) (st : WSt) (ks kt : Tok) : Prop where
  p1 : m (Str.ofString "count") = some (.ref cl)
  p2 : ∃ k, m (Str.ofString "b") = some (.int (st.b : Int) k)
  p3 : ∃ k, m (Str.ofString "n") = some (.int (st.n : Int) k)
  p4 : ∃ k, m (Str.ofString "nt") = some (.int (st.nt : Int) k)
  p5 : m (Str.ofString "S") = some (.str (Str.ofString " ") ks)
  p6 : m (Str.ofString "T") = some (.str (Str.ofString "\t") kt)
  p7 : m (Str.ofString "self") = some (.ref pa)
theorem LocW.elim {C : Prop} {m : Str → Option Value} {cl pa : Addr} {st : WSt} {ks kt : Tok} (H : LocW m cl pa st ks kt) (k : m (Str.ofString "count") = some (.ref cl) → ∀ kb, m (Str.ofString "b") = some (.int (st.b : Int) kb) → ∀ kn, m (Str.ofString "n") = some (.int (st.n : Int) kn) → ∀ knt, m (Str.ofString "nt") = some (.int (st.nt : Int) knt) → m (Str.ofString "S") = some (.str (Str.ofString " ") ks) → m (Str.ofString "T") = some (.str (Str.ofString "\t") kt) → m (Str.ofString "self") = some (.ref pa) → C) : C := by
  obtain ⟨p1, ⟨kb, p2⟩, ⟨kn, p3⟩, ⟨knt, p4⟩, p5, p6, p7⟩ := H
  exact k p1 kb p2 kn p3 knt p4 p5 p6 p7
noncomputable def InvS (pre : List Nat) (x' d' : Nat) (od : Obj) (news : List (Addr × Obj)) (gs : Array GenState) (os : OsState) (i : Nat) (rest : List (Addr × Obj)) (m : Str → Option Value) (g : Array GenState) (o : OsState) : Prop :=
  ∀ C : Prop, (i ≤ pre.length → ∀ (st : WSt) (cl : Nat) (ws : Array Value) (c : Nat), wsRun (pre.take i) = st → rest = (cl, listOf ws c) :: (x', instObj 276 d') :: (d', od) :: news → (∀ p ∈ (x', instObj 276 d') :: (d', od) :: news, @LT.lt Nat _ p.1 cl) → IntsL ws st.cnt → LocW m cl x' st 468 469 → g = gs → o = os → C) → C
theorem under_W (dp un : Nat) (gd : Option (List Code)) (cn : Str) (cs : Scope) (L a : Addr) (ccd : Value) (cl : List (Str × Addr)) (outer : List Env) (C : Addr) (rest : List Value) : (ktrTop dp un gd cn cs L a ccd cl outer).under (.builtin "type.__call__" ⟨.ref C :: rest, []⟩) = ktrTop (dp + 1) (un + 1) (pushGuards [] gd) cn cs L a ccd cl outer := rfl
theorem rows_S20_1 : True := by
  k_with_none
  w_top off
  k_with "zv" => ((repeat (first | (refine Eq.trans (ite_off ?_) ?_; focus decide) | (refine Eq.trans (upd_off ?_) ?_; focus decide))); first | with_reducible assumption | exact if_pos rfl | exact upd_on)
  k_with "zo" => (first | (first | lia | omega) | (simp; (first | lia | omega)))
  k_with "k_mem" => (assumption)
  k_with "k_ne" => (first | exact ne_mem1 (by with_reducible assumption) (by with_reducible assumption) | exact ne_mem2 (by with_reducible assumption) (by with_reducible assumption))
  k_with "wpAt" => ((fail_if_success ks_step "execs cons"); dsimp only; ks_step "execs cons"; refine ks_wpAt_execs_cons ?_)
  k_with "wpAt" => (ks_step "eval Call"; k_dflt (refine ks_wpAt_MethodCall ?_))
  k_with "k_ne" => (first | exact ne_mem1 (by with_reducible assumption) (by with_reducible assumption) | exact ne_mem1 (And.right (by with_reducible assumption)) (by with_reducible assumption) | exact ne_mem1 (And.right (And.right (by with_reducible assumption))) (by with_reducible assumption) | exact ne_mem1 (And.right (And.right (And.right (by with_reducible assumption)))) (by with_reducible assumption) | exact ne_mem1 (And.right (And.right (And.right (And.right (by with_reducible assumption))))) (by with_reducible assumption) | exact ne_mem1 (And.right (And.right (And.right (And.right (And.right (by with_reducible assumption)))))) (by with_reducible assumption) | exact ne_mem1 (And.right (And.right (And.right (And.right (And.right (And.right (by with_reducible assumption))))))) (by with_reducible assumption))
  k_with "k_mem" => (first | with_reducible assumption | with_reducible exact List.Mem.head _ | with_reducible exact List.Mem.tail _ (by assumption) | with_reducible exact List.Mem.tail _ (List.Mem.tail _ (by assumption)) | with_reducible exact List.Mem.tail _ (List.Mem.tail _ (List.Mem.tail _ (by assumption))))
  k_with "binaryOp Mult ref int" => (k_here; k_dflt (refine mul_K (by k_asm) (by k_asm) (by k_mem) (by assumption) (by (first | lia | omega)) ?_; k_whole; intro q' h' F' N' l1; (try k_lt l1); revert q' h' F' N' l1; intros))
  k_with "call builtin:list.extend" => (k_here; k_dflt (refine ext_K (by k_asm) (by k_asm) (by k_mem) (by k_updF) (by walk_at "zo") (by (walk_at "zo")) ?_; k_whole; intro h' n' F' N'; (try dsimp only at N'); revert h' n' F' N'; intros))
  k_with "call builtin:list.append" => (k_here; k_dflt (refine app_K (by k_asm) (by k_asm) (by k_updF) (by (walk_at "zo")) ?_; k_whole; intro h' n' F' N'; (try dsimp only at N'); revert h' n' F' N'; intros))
  k_with "call type:tuple" => (k_here; k_dflt (refine tup_K (by k_asm) (by k_asm) (by k_mem) (by (first | lia | omega)) ?_; k_whole; intro D' h' F' N' l1; (try k_lt l1); revert D' h' F' N' l1; intros))
  k_with "compareOp Eq str str" => (first | refine eq_yes (by decide) ?_ | refine eq_no (by decide) ?_ | refine eq_no (by assumption) ?_)
  k_with "compareOp GtE int int" => (first | refine ge_yes (by (first | lia | omega)) ?_ | refine ge_no (by (first | lia | omega)) ?_)
  k_with "binaryOp Mult ref int" => (k_here; k_dflt (refine mul_Ki (by k_asm) (by k_asm) (by k_mem) (by (first | lia | omega)) (by (first | lia | omega)) ?_; k_whole; intro q' h' F' N' l1; (try k_lt l1); revert q' h' F' N' l1; intros))
  k_with "binaryOp Add ref ref" => (k_here; k_dflt (refine add_K (by k_asm) (by k_asm) (by k_mem) (by k_mem) (by walk_at "zo") (by walk_at "zo") ?_; k_whole; intro q' h' F' N' l1; (try k_lt l1); revert q' h' F' N' l1; intros))
  k_with "subscriptTail" => (refine HoldK.of ?_)
  k_with "subscriptTail" => (k_here; (with_reducible show wpAny _ _ (subscriptTail _ _ (Value.ref _) (Value.int _ _)) _ _ _); k_dflt (refine get_K (by k_asm) (by k_mem) (by (first | lia | omega)) (by (first | lia | omega)) (by assumption) ?_ (by with_unfolding_all rfl); k_whole))
  k_with "setItem ref int" => (k_here; k_dflt (refine set_K (by k_asm) (by k_asm) (by k_updF) (by (first | lia | omega)) (by walk_at "zo") (by (first | lia | omega)) ?_; k_whole; intro h' F' N'; (try dsimp only at N'); revert h' F' N'; intros))
  k_with "eval Name" => (k_here; k_dflt (first | (refine nameX_K (by k_asm) (by k_asm) (by k_asm) (by k_is) ?_ (by rfl) (by rfl); k_whole) | (refine nameX_B (by k_asm) (by k_asm) (by k_asm) (by k_is) (by boot_fast) (by decide) ?_ (by rfl) (by rfl); k_whole)))
  k_with "eval Name" => ((first | ((with_reducible show wpAny _ _ (eval (Expr.Name _ _) (envOf _ _ _ _ _)) _ _ _); refine ld (by assumption) (by walk_at "zv") ?_) | ((with_reducible show wpAny _ _ (eval (Expr.Name _ _) (envOfC _ _ _ _ _)) _ _ _); refine ldC (by assumption) (by walk_at "zv") ?_)); k_whole)
  k_with "exec For" => (refine For_loop ?_ (by intro _; with_unfolding_all rfl))
  k_with "exec For Name Call cons nil" => (refine For_loop ?_ (by intro _; with_unfolding_all rfl))
  k_with "exec For Name Name cons nil" => (refine For_loop ?_ (by intro _; with_unfolding_all rfl))
  k_with "exec For Name Attribute cons nil" => (refine For_loop ?_ (by intro _; with_unfolding_all rfl))
  k_with "execs cons" => (first | (k_here; k_gentoks) | ((try (rename Flow → Shared → Prop => qq; clear qq)); (try (rename Value → Shared → Prop => qq; clear qq)); refine wpAny_execs_cons ?_; (try dsimp only); k_fold))
  k_with "subscriptTail Name Name ref int" => (k_extra "subscriptTail")
  trivial
theorem makeW : ∀ {w : World} {loose : List Str} {mean : ExcName → Option Value} {mg mb : Str → Option Value} {dp un : Nat} {gd : Option (List Code)} {cn : Str} {cs : Scope} {a : Addr} {ccd : Value} {cl : List (Str × Addr)} {outer : List Env} {A₀ : Around} {base h₀ : Heap} {L : Addr} {m : Str → Option Value} {s : Shared} {Q E : Value → Shared → Prop} {news : List (Addr × Obj)} {x : Str} {kx : Tok} {pre : List Nat} {z : Nat}
  (B : Below A₀ base outer h₀) (F : Fr h₀ L s.heap m) (X : (fr.heap_1 w.params).In h₀) (N : News h₀ L s.heap news) (T : Top topProg loose mean mg mb h₀) (hk : cs.kind = .function) (hdp : dp + 12 < recursionLimit) (hun : un + 160 < cLine) (hx : x.cps.toList = pre ++ [z]) (hz : z ≠ 32 ∧ z ≠ 9) (hpre : ∀ c ∈ pre, c = 32 ∨ c = 9) (hpl : pre.length ≤ 20) (hret : ∀ (pa fd T1 T2 : Nat) (ws : Array Value) a1 a2 a3 a4 a5 t1 t2 t3 t4 t5 kx kn knt kb (s₁ : Shared), Fr h₀ L s₁.heap m → News h₀ L s₁.heap ((T1, tupOf #[.ref T2, .int ((wsRun pre).b : Int) kb]) :: (T2, tupOf ws) :: (pa, instObj 276 fd) :: (fd, wsObj x (wsRun pre).n (wsRun pre).nt T1 (decide (((wsRun pre).cnt.length : Int) ≤ 1)) a1 a2 a3 a4 a5 t1 t2 t3 t4 t5 kx kn knt) :: news) → IntsL ws (wsRun pre).cnt → (∀ p ∈ news, @LT.lt Nat _ p.1 fd) → @LT.lt Nat _ fd pa → @LT.lt Nat _ pa T2 → @LT.lt Nat _ T2 T1 → s₁.gens = s.gens → s₁.os = s.os → Q (.ref pa) s₁),
  wpAny (model PySem.Challenge.rw_wu0100_01.row.prog w) (ktrTop dp un gd cn cs L a ccd cl outer) (call (.ref 276) [.str x kx]) Q E s := by
  k_fill
  intro w loose mean mg mb dp un gd cn cs a ccd cl outer A₀ base h₀ L m s Q E news x kx pre z B F X N T hk hdp hun hx hz hpre hpl hret
  k_dflt (refine' call_cls ?k1 ?k2 ?k3 ?k4 ?k5 ?k6 ?_; (case k1 => k_asm); (case k2 => k_asm); (case k3 => k_asm); (case k4 => k_is); (case k5 => k_is); (case k6 => k_is); k_whole; intro x' d' h' F' N' l1 l2; (try k_lt l1); (try k_lt2 l2))
  rw [under_W]
  k_dflt (refine' code_def ?k1 ?k2 ?k3 ?k4 ?k5 ?kA ?kF ?kK ?k6 ?k7 ?k8 ?k9 ?kB ?_ ?c2 ?c3 ?c4 ?c5; (case kA => exact rfl); (case kF => exact rfl); (case kK => first | exact rfl | assumption); (case k1 => k_asm); (case k2 => k_asm); (case k3 => k_asm); (case k4 => k_asm); (case k5 => k_asm); (case k6 => k_is); (case k7 => k_is); (case k8 => ktr_room); (case k9 => exact BindsTo.of_eq rfl); (case c5 => decide); (case kB => exact locs rfl); (case c2 => exact rfl); (case c3 => exact rfl); (case c4 => exact rfl); k_whole; intro g' L' h' FG' F' N' B' X' T'; (try dsimp only); (try k_lift B'); (try k_fold))
  obtain ⟨M0', ⟨f1, f2⟩, F0⟩ := fr_gen (P := fun M => M (Str.ofString "self") = some (.ref x') ∧ M (Str.ofString "ws") = some (.str x kx)) F' ⟨rfl, rfl⟩
  clear F'
  k_steps
  rename_i tk1 h9 tkx D8 h8 l18 h7 h6 h5 tkk cl h4 l14 h3 tky ha hb hc F5 N5
  obtain ⟨a1, t1, od, hod, N6⟩ : ∃ a1 t1 od, od = dictOf [⟨a1, .str (Str.ofString "raw") t1, .str x kx⟩] 1 ∧ News g' L' hc ((cl, listOf #[] 0) :: (x', instObj 276 d') :: (d', od) :: news) := ⟨_, _, _, rfl, cb_drop N5 (by intro p hp; rcases List.mem_cons.mp hp with rfl | hp; exact .head _; exact .tail _ (.tail _ hp))⟩
  have hcl : ∀ p ∈ (x', instObj 276 d') :: (d', od) :: news, @LT.lt Nat _ p.1 cl := by
    obtain ⟨-, q1, q2, q3⟩ := l14
    intro p hp
    rcases List.mem_cons.mp hp with rfl | hp
    · exact q1
    · rcases List.mem_cons.mp hp with rfl | hp
      · exact q2
      · exact allLt_all _ q3 p hp
  have HL0 := (fun {M} (_ : Fr g' L' hc M) (h : LocW M cl x' (wsRun (pre.take 0)) 468 469) => h) F5 ⟨by (repeat (refine Eq.trans (if_neg ?_) ?_; focus decide)); exact if_pos rfl, ⟨_, by (repeat (refine Eq.trans (if_neg ?_) ?_; focus decide)); exact if_pos rfl⟩, ⟨_, by (repeat (refine Eq.trans (if_neg ?_) ?_; focus decide)); exact if_pos rfl⟩, ⟨_, by (repeat (refine Eq.trans (if_neg ?_) ?_; focus decide)); exact if_pos rfl⟩, by (repeat (refine Eq.trans (if_neg ?_) ?_; focus decide)); exact if_pos rfl, by (repeat (refine Eq.trans (if_neg ?_) ?_; focus decide)); exact if_pos rfl, by (repeat (refine Eq.trans (if_neg ?_) ?_; focus decide)); exact f1⟩
  have hlen : x.cps.size = pre.length + 1 := by rw [← Array.length_toList, hx]; simp
  refine loop_str (L := L') (InvS pre x' d' od news s.gens s.os) rfl rfl rfl rfl F5 N6 (fun _ K => K (Nat.zero_le _) _ cl #[] 0 rfl rfl hcl .nil HL0 rfl rfl) ?_ ?_
  · clear F5 N5 N6 HL0 hcl
    intro it i rest m₁ s₁ c tk2 o' E' hit hi hcc hI1 hne F7 N7
    try k_fold
    refine hI1 _ ?_
    intro hip st cl ws c2 hst0 hrest hcl hws HL hg hos
    subst hrest
    refine LocW.elim HL ?_
    intro p1 kb p2 kn p3 knt p4 p5 p6 p7
    have hlx : (x.cps.toList)[i]? = some c := by rw [Array.getElem?_toList]; exact hcc
    rw [hx] at hlx
    have hb := wsRun_le (pre.take i)
    rw [hst0] at hb
    have hti : (pre.take i).length ≤ 20 := by rw [List.length_take]; (first | lia | omega)
    have hsz : ws.size = st.cnt.length := hws.1
    refine and4 hb ?_
    intro hb1 hb2 hb3 hb4
    clear hb hI1
    have q1 : @Ne Nat cl it := hne _ (.head _)
    have q2 : @LT.lt Nat _ x' cl := hcl _ (.head _)
    have q3 : @LT.lt Nat _ d' cl := hcl _ (.tail _ (.head _))
    have hof : OwnOff news [cl] := fun p hp b hb => by cases List.mem_singleton.mp hb; exact Nat.ne_of_lt (hcl _ (.tail _ (.tail _ hp)))
    by_cases hlast : i < pre.length
    · rw [List.getElem?_append_left hlast, List.getElem?_eq_getElem hlast] at hlx
      obtain rfl : pre[i] = c := by simpa using hlx
      have hst : wsRun (pre.take (i + 1)) = wsStep st pre[i] := by rw [take_snoc hlast, wsRun_snoc, hst0]
      rcases hpre _ (List.getElem_mem hlast) with hc32 | hc9
      · rw [hc32] at hst F7
        have hst' := hst.trans (if_pos rfl)
        k_steps
        rename News _ _ _ _ => N9
        rename Fr _ _ _ _ => F9
        refine ⟨(it, o') :: (cl, _) :: (x', instObj 276 d') :: (d', od) :: news, _, .head _, fun _ K => K hlast _ cl _ _ hst' (dropL_head ?_) ?_ ?_ ?_ hg hos, F9, cb_drop N9 (by intro p hp; repeat (first | exact hp | apply List.Mem.tail))⟩
        · exact hne
        · exact hcl
        · exact hws
        · exact ⟨by (repeat (refine Eq.trans (if_neg ?_) ?_; focus decide)); first | exact p1 | exact if_pos rfl, ⟨_, by (repeat (refine Eq.trans (if_neg ?_) ?_; focus decide)); first | exact p2 | exact if_pos rfl | exact (if_pos rfl).trans (congrArg (fun z => some (Value.int z _)) (by simp only []; (first | lia | omega)))⟩, ⟨_, by (repeat (refine Eq.trans (if_neg ?_) ?_; focus decide)); first | exact p3 | exact if_pos rfl | exact (if_pos rfl).trans (congrArg (fun z => some (Value.int z _)) (by simp only []; (first | lia | omega)))⟩, ⟨_, by (repeat (refine Eq.trans (if_neg ?_) ?_; focus decide)); first | exact p4 | exact if_pos rfl | exact (if_pos rfl).trans (congrArg (fun z => some (Value.int z _)) (by simp only []; (first | lia | omega)))⟩, by (repeat (refine Eq.trans (if_neg ?_) ?_; focus decide)); first | exact p5 | exact if_pos rfl, by (repeat (refine Eq.trans (if_neg ?_) ?_; focus decide)); first | exact p6 | exact if_pos rfl, by (repeat (refine Eq.trans (if_neg ?_) ?_; focus decide)); first | exact p7 | exact if_pos rfl⟩
      · rw [hc9] at hst F7
        have hst' := hst.trans (if_neg (by decide))
        by_cases hpad : st.b < st.cnt.length
        · obtain ⟨tk5, e5⟩ := hws.at hpad
          have e5' : ws[(st.b : Int).toNat]? = some (.int (st.cnt[st.b] : Int) tk5) := by rw [Int.toNat_natCast]; exact e5
          have hbump : bump st.cnt st.b = st.cnt.set st.b (st.cnt[st.b] + 1) := by
            unfold bump
            rw [show st.b + 1 - st.cnt.length = 0 by (first | lia | omega), List.replicate_zero, List.append_nil]
            simp [List.getD, hpad]
          k_steps
          rename News _ _ _ _ => N9
          rename Fr _ _ _ _ => F9
          refine ⟨(it, o') :: (cl, _) :: (x', instObj 276 d') :: (d', od) :: news, _, .head _, fun _ K => K hlast _ cl _ _ hst' (dropL_head ?_) ?_ ?_ ?_ hg hos, F9, cb_drop N9 (by intro p hp; repeat (first | exact hp | apply List.Mem.tail))⟩
          · exact fun y hy => by
              rcases List.mem_cons.mp hy with rfl | hy
              · exact q1
              · exact hne y (.tail _ hy)
          · exact hcl
          · show IntsL _ (bump st.cnt st.b)
            rw [hbump]
            simp only [Int.toNat_natCast]
            exact hws.set hpad (by simp)
          · exact ⟨by (repeat (refine Eq.trans (if_neg ?_) ?_; focus decide)); first | exact p1 | exact if_pos rfl, ⟨_, by (repeat (refine Eq.trans (if_neg ?_) ?_; focus decide)); first | exact p2 | exact if_pos rfl | exact (if_pos rfl).trans (congrArg (fun z => some (Value.int z _)) (by simp only []; (first | lia | omega)))⟩, ⟨_, by (repeat (refine Eq.trans (if_neg ?_) ?_; focus decide)); first | exact p3 | exact if_pos rfl | exact (if_pos rfl).trans (congrArg (fun z => some (Value.int z _)) (by simp only []; (first | lia | omega)))⟩, ⟨_, by (repeat (refine Eq.trans (if_neg ?_) ?_; focus decide)); first | exact p4 | exact if_pos rfl | exact (if_pos rfl).trans (congrArg (fun z => some (Value.int z _)) (by simp only []; (first | lia | omega)))⟩, by (repeat (refine Eq.trans (if_neg ?_) ?_; focus decide)); first | exact p5 | exact if_pos rfl, by (repeat (refine Eq.trans (if_neg ?_) ?_; focus decide)); first | exact p6 | exact if_pos rfl, by (repeat (refine Eq.trans (if_neg ?_) ?_; focus decide)); first | exact p7 | exact if_pos rfl⟩
        · k_steps
          rename News _ _ _ _ => N9
          rename _ ∧ _ ∧ _ ∧ _ ∧ _ ∧ _ ∧ AllLt _ _ => l99
          obtain ⟨-, -, g1, g2, g3, g4, g5⟩ := id l99
          have e1 : ((st.b : Int) - (st.cnt.length : Int) + 1).toNat = st.b + 1 - st.cnt.length := by (first | lia | omega)
          rw [e1] at N9
          have hW := pad_ints N9 hws
          have hin : st.b < (st.cnt ++ List.replicate (st.b + 1 - st.cnt.length) 0).length := by
            rw [List.length_append, List.length_replicate]; (first | lia | omega)
          obtain ⟨tk5, e5⟩ := hW.at hin
          refine get_K N9 (.head _) (by (first | lia | omega)) (by (first | lia | omega)) (by rw [Int.toNat_natCast]; exact e5) ?_ (by with_unfolding_all rfl)
          k_steps
          rename News _ _ _ _ => N9
          rename Fr _ _ _ _ => F9
          refine ⟨(it, o') :: (_, _) :: (x', instObj 276 d') :: (d', od) :: news, _, .head _, fun _ K => K hlast _ _ _ _ hst' (dropL_head ?_) ?_ ?_ ?_ hg hos, F9, cb_drop N9 (by intro p hp; rcases List.mem_cons.mp hp with rfl | hp; exact .tail _ (.tail _ (.tail _ (.head _))); rcases List.mem_cons.mp hp with rfl | hp; exact .head _; repeat (first | exact hp | apply List.Mem.tail))⟩
          · intro y hy
            rcases List.mem_cons.mp hy with rfl | hy
            · exact Nat.ne_of_gt g1
            · exact hne y (.tail _ hy)
          · intro p hp
            rcases List.mem_cons.mp hp with rfl | hp
            · exact g3
            · rcases List.mem_cons.mp hp with rfl | hp
              · exact g4
              · exact allLt_all _ g5 p hp
          · have hbump : bump st.cnt st.b = (st.cnt ++ List.replicate (st.b + 1 - st.cnt.length) 0).set st.b ((st.cnt ++ List.replicate (st.b + 1 - st.cnt.length) 0)[st.b] + 1) := by
              have hg := List.getElem?_eq_getElem hin
              unfold bump
              rw [List.getD, hg]
              rfl
            show IntsL _ (bump st.cnt st.b)
            rw [hbump]
            simp only [Int.toNat_natCast]
            exact hW.set hin (by simp)
          · exact ⟨by (repeat (refine Eq.trans (if_neg ?_) ?_; focus decide)); first | exact p1 | exact if_pos rfl, ⟨_, by (repeat (refine Eq.trans (if_neg ?_) ?_; focus decide)); first | exact p2 | exact if_pos rfl | exact (if_pos rfl).trans (congrArg (fun z => some (Value.int z _)) (by simp only []; (first | lia | omega)))⟩, ⟨_, by (repeat (refine Eq.trans (if_neg ?_) ?_; focus decide)); first | exact p3 | exact if_pos rfl | exact (if_pos rfl).trans (congrArg (fun z => some (Value.int z _)) (by simp only []; (first | lia | omega)))⟩, ⟨_, by (repeat (refine Eq.trans (if_neg ?_) ?_; focus decide)); first | exact p4 | exact if_pos rfl | exact (if_pos rfl).trans (congrArg (fun z => some (Value.int z _)) (by simp only []; (first | lia | omega)))⟩, by (repeat (refine Eq.trans (if_neg ?_) ?_; focus decide)); first | exact p5 | exact if_pos rfl, by (repeat (refine Eq.trans (if_neg ?_) ?_; focus decide)); first | exact p6 | exact if_pos rfl, by (repeat (refine Eq.trans (if_neg ?_) ?_; focus decide)); first | exact p7 | exact if_pos rfl⟩
    · have hieq : i = pre.length := by (first | lia | omega)
      subst hieq
      subst hod
      rw [List.getElem?_append_right (Nat.le_refl _), Nat.sub_self] at hlx
      obtain rfl : z = c := by simpa using hlx
      have hz1 : (⟨#[z]⟩ : Str) ≠ Str.ofString " " := fun e => hz.1 (by have := congrArg (fun y => y.cps.toList) e; simpa [show (Str.ofString " ").cps.toList = [32] by decide] using this)
      have hz2 : (⟨#[z]⟩ : Str) ≠ Str.ofString "\t" := fun e => hz.2 (by have := congrArg (fun y => y.cps.toList) e; simpa [show (Str.ofString "\t").cps.toList = [9] by decide] using this)
      have r1 : @Ne Nat x' it := hne _ (.tail _ (.head _))
      have r2 : @Ne Nat d' it := hne _ (.tail _ (.tail _ (.head _)))
      have hofd : OwnOff news [d'] := fun p hp b hb => by cases List.mem_singleton.mp hb; exact Nat.ne_of_lt (l1 p hp)
      have hofx : OwnOff news [x'] := fun p hp b hb => by cases List.mem_singleton.mp hb; exact Nat.ne_of_lt (Nat.lt_trans (l1 p hp) l2)
      k_steps
      rw [List.take_length] at hst0
      subst hst0
      rename _ ∧ _ ∧ _ ∧ _ ∧ _ ∧ AllLt _ _ => lT1
      rename _ ∧ _ ∧ _ ∧ _ ∧ AllLt _ _ => lT2
      rename News h₀ L _ _ => N9
      exact hret _ _ _ _ ws _ _ _ _ _ _ _ _ _ _ _ _ _ _ _ (by k_asm) (drop_23 N9) hws l1 l2 lT2.2.2.1 lT1.1 hg hos
  · intro rest m₁ s₁ hI1 _ _
    try k_fold
    refine hI1 _ ?_
    intro hip _ _ _ _ _ _ _ _ _ _ _
    rw [hlen] at hip
    (first | lia | omega)
end
section
open PySem PySem.Spec PySem.Calls PySem.W PyProof.Rows
set_option maxRecDepth 100000
set_option maxHeartbeats 0
structure WsL (news : List (Addr × Obj)) (pa : Addr) (st : WSt) : Prop where
  ex : ∃ (fd T1 T2 : Nat) (ws : Array Value) (x : Str) (a1 a2 a3 a4 a5 : Int) (t1 t2 t3 t4 t5 kx kn knt kb : Tok), (pa, instObj 276 fd) ∈ news ∧ (fd, wsObj x st.n st.nt T1 (decide ((st.cnt.length : Int) ≤ 1)) a1 a2 a3 a4 a5 t1 t2 t3 t4 t5 kx kn knt) ∈ news ∧ (T1, tupOf #[.ref T2, .int (st.b : Int) kb]) ∈ news ∧ (T2, tupOf ws) ∈ news ∧ IntsL ws st.cnt
  hl : st.cnt.length ≤ 20
  hb : st.b ≤ 20
  hnt : st.nt ≤ 20
  hn : st.n ≤ 20
  hc : ∀ x ∈ st.cnt, x ≤ 20
theorem WsL.elimB {news : List (Addr × Obj)} {pa : Addr} {st : WSt} {C : Prop} (W : WsL news pa st) (k : ∀ (fd T1 T2 : Nat) (ws : Array Value) (x : Str) (a1 a2 a3 a4 a5 : Int) (t1 t2 t3 t4 t5 kx kn knt kb : Tok), (pa, instObj 276 fd) ∈ news → (fd, wsObj x st.n st.nt T1 (decide ((st.cnt.length : Int) ≤ 1)) a1 a2 a3 a4 a5 t1 t2 t3 t4 t5 kx kn knt) ∈ news → (T1, tupOf #[.ref T2, .int (st.b : Int) kb]) ∈ news → (T2, tupOf ws) ∈ news → IntsL ws st.cnt → st.cnt.length ≤ 20 → st.b ≤ 20 → st.nt ≤ 20 → st.n ≤ 20 → (∀ x ∈ st.cnt, x ≤ 20) → C) : C := by
  obtain ⟨⟨fd, T1, T2, ws, x, a1, a2, a3, a4, a5, t1, t2, t3, t4, t5, kx, kn, knt, kb, h1, h2, h3, h4, h5⟩, b1, b2, b3, b4, b5⟩ := W
  exact k fd T1 T2 ws x a1 a2 a3 a4 a5 t1 t2 t3 t4 t5 kx kn knt kb h1 h2 h3 h4 h5 b1 b2 b3 b4 b5
theorem WsL.elim {news : List (Addr × Obj)} {pa : Addr} {st : WSt} {C : Prop} (W : WsL news pa st) (k : ∀ (fd T1 T2 : Nat) (ws : Array Value) (x : Str) (a1 a2 a3 a4 a5 : Int) (t1 t2 t3 t4 t5 kx kn knt kb : Tok), (pa, instObj 276 fd) ∈ news → (fd, wsObj x st.n st.nt T1 (decide ((st.cnt.length : Int) ≤ 1)) a1 a2 a3 a4 a5 t1 t2 t3 t4 t5 kx kn knt) ∈ news → (T1, tupOf #[.ref T2, .int (st.b : Int) kb]) ∈ news → (T2, tupOf ws) ∈ news → IntsL ws st.cnt → C) : C :=
  W.elimB fun fd T1 T2 ws x a1 a2 a3 a4 a5 t1 t2 t3 t4 t5 kx kn knt kb h1 h2 h3 h4 h5 _ _ _ _ _ => k fd T1 T2 ws x a1 a2 a3 a4 a5 t1 t2 t3 t4 t5 kx kn knt kb h1 h2 h3 h4 h5
theorem WsL.mono {news news' : List (Addr × Obj)} {pa : Addr} {st : WSt} (W : WsL news pa st) (h : ∀ y ∈ news, y ∈ news') : WsL news' pa st := by
  obtain ⟨⟨fd, T1, T2, ws, x, a1, a2, a3, a4, a5, t1, t2, t3, t4, t5, kx, kn, knt, kb, h1, h2, h3, h4, h5⟩, b1, b2, b3, b4, b5⟩ := W
  exact ⟨⟨fd, T1, T2, ws, x, a1, a2, a3, a4, a5, t1, t2, t3, t4, t5, kx, kn, knt, kb, h _ h1, h _ h2, h _ h3, h _ h4, h5⟩, b1, b2, b3, b4, b5⟩
section
variable {w : World} {A : Around} {E : Value → Shared → Prop} {s : Shared} {h₀ : Heap} {L : Addr} {m : Str → Option Value} {news : List (Addr × Obj)}
theorem len_tupK {T : Addr} {ws : Array Value} {k : Nat} {Q : Value → Shared → Prop} (N : News h₀ L s.heap news) (hm : (T, tupOf ws) ∈ news) (hk : ws.size = k) (hz : k ≤ 1000) (h : Q (.int (k : Int) (s.toks + 1)) { s with toks := s.toks + 1 + 1 }) : wpAny (model PG w) A (call (.builtin "len") [.ref T]) Q E s := by
  subst hk
  exact len_tuple ⟨_, (N _ hm).1, rfl, _, rfl⟩ (by omega) h
theorem max_K {a b : Int} {t u : Tok} {Q : Value → Shared → Prop} (hh : A.handled = none) (F : Fr h₀ L s.heap m) (N : News h₀ L s.heap news) (h : ∀ h' tk u', Fr h₀ L h' m → News h₀ L h' news → Q (.int (max a b) u') { s with heap := h', toks := tk }) : wpAny (model PG w) A (call (.builtin "max") [.int a t, .int b u]) Q E s :=
  max_two_N hh F N fun h' tk F' N' => by
    have e : (if b > a then b else a) = max a b := by rw [Int.max_def]; split <;> split <;> omega
    rw [e]
    exact h h' tk _ F' N'
end
theorem rows_S21_1 : True := by
  k_with_none
  w_top off
  k_with "zv" => ((repeat (first | (refine Eq.trans (ite_off ?_) ?_; focus decide) | (refine Eq.trans (upd_off ?_) ?_; focus decide))); first | with_reducible assumption | exact if_pos rfl | exact upd_on)
  k_with "k_mem" => (assumption)
  k_with "k_ne" => (first | exact ne_mem1 (by with_reducible assumption) (by with_reducible assumption) | exact ne_mem2 (by with_reducible assumption) (by with_reducible assumption))
  k_with "wpAt" => ((fail_if_success ks_step "execs cons"); dsimp only; ks_step "execs cons"; refine ks_wpAt_execs_cons ?_)
  k_with "wpAt" => (ks_step "eval Call"; k_dflt (refine ks_wpAt_MethodCall ?_))
  k_with "k_ne" => (first | exact ne_mem1 (by with_reducible assumption) (by with_reducible assumption) | exact ne_mem1 (And.right (by with_reducible assumption)) (by with_reducible assumption) | exact ne_mem1 (And.right (And.right (by with_reducible assumption))) (by with_reducible assumption) | exact ne_mem1 (And.right (And.right (And.right (by with_reducible assumption)))) (by with_reducible assumption) | exact ne_mem1 (And.right (And.right (And.right (And.right (by with_reducible assumption))))) (by with_reducible assumption) | exact ne_mem1 (And.right (And.right (And.right (And.right (And.right (by with_reducible assumption)))))) (by with_reducible assumption) | exact ne_mem1 (And.right (And.right (And.right (And.right (And.right (And.right (by with_reducible assumption))))))) (by with_reducible assumption))
  k_with "k_mem" => (first | with_reducible assumption | with_reducible exact List.Mem.head _ | with_reducible exact List.Mem.tail _ (by assumption) | with_reducible exact List.Mem.tail _ (List.Mem.tail _ (by assumption)) | with_reducible exact List.Mem.tail _ (List.Mem.tail _ (List.Mem.tail _ (by assumption))))
  k_with "call builtin:len" => (k_here; (with_reducible show wpAny _ _ (call (Value.builtin _) [Value.ref _]) _ _ _); k_dflt (refine len_tupK (by k_asm) (by k_mem) (by assumption) (by omega) ?_; k_whole))
  k_with "call builtin:max" => (k_here; (with_reducible show wpAny _ _ (call (Value.builtin _) [Value.int _ _, Value.int _ _]) _ _ _); k_dflt (refine max_K (by exact rfl) (by k_asm) (by k_asm) ?_; k_whole; intros))
  k_with "eval Name" => (k_here; k_dflt (first | (refine nameX_K (by k_asm) (by k_asm) (by k_asm) (by k_is) ?_ (by rfl) (by rfl); k_whole) | (refine nameX_B (by k_asm) (by k_asm) (by k_asm) (by k_is) (by boot_fast) (by decide) ?_ (by rfl) (by rfl); k_whole)))
  k_with "eval Name" => ((first | ((with_reducible show wpAny _ _ (eval (Expr.Name _ _) (envOf _ _ _ _ _)) _ _ _); refine ld (by assumption) (by walk_at "zv") ?_) | ((with_reducible show wpAny _ _ (eval (Expr.Name _ _) (envOfC _ _ _ _ _)) _ _ _); refine ldC (by assumption) (by walk_at "zv") ?_)); k_whole)
  k_with "exec For" => (refine For_loop ?_ (by intro _; with_unfolding_all rfl))
  k_with "exec For Name Call cons nil" => (refine For_loop ?_ (by intro _; with_unfolding_all rfl))
  k_with "exec For Name Name cons nil" => (refine For_loop ?_ (by intro _; with_unfolding_all rfl))
  k_with "exec For Name Attribute cons nil" => (refine For_loop ?_ (by intro _; with_unfolding_all rfl))
  k_with "execs cons" => (first | (k_here; k_gentoks) | ((try (rename Flow → Shared → Prop => qq; clear qq)); (try (rename Value → Shared → Prop => qq; clear qq)); refine wpAny_execs_cons ?_; (try dsimp only); k_fold))
  trivial
theorem longest : ∀ {w : World} {loose : List Str} {mean : ExcName → Option Value} {mg mb : Str → Option Value} {dp un : Nat} {gd : Option (List Code)} {cn : Str} {cs : Scope} {a : Addr} {ccd : Value} {cl : List (Str × Addr)} {outer : List Env} {A₀ : Around} {base h₀ : Heap} {L : Addr} {m : Str → Option Value} {s : Shared} {Q E : Value → Shared → Prop} {news : List (Addr × Obj)} {pa : Addr} {st : WSt}
  (B : Below A₀ base outer h₀) (F : Fr h₀ L s.heap m) (X : (fr.heap_1 w.params).In h₀) (N : News h₀ L s.heap news) (T : Top topProg loose mean mg mb h₀) (hk : cs.kind = .function) (hdp : dp + 12 < recursionLimit) (hun : un + 160 < cLine) (W : WsL news pa st) (hret : ∀ k₁ (s₁ : Shared), Fr h₀ L s₁.heap m → News h₀ L s₁.heap news → s₁.gens = s.gens → s₁.os = s.os → Q (.int (max ((st.cnt.length : Int) - 1) (st.b : Int)) k₁) s₁),
  wpAny (model PySem.Challenge.rw_wu0100_01.row.prog w) (ktrTop dp un gd cn cs L a ccd cl outer) (call (.ref 238) [.ref pa]) Q E s := by
  k_fill
  intro w loose mean mg mb dp un gd cn cs a ccd cl outer A₀ base h₀ L m s Q E news pa st B F X N T hk hdp hun W hret
  refine wpAny_call ?_
  k_dflt (refine' code_def ?k1 ?k2 ?k3 ?k4 ?k5 ?kA ?kF ?kK ?k6 ?k7 ?k8 ?k9 ?kB ?_ ?c2 ?c3 ?c4 ?c5; (case kA => exact rfl); (case kF => exact rfl); (case kK => first | exact rfl | assumption); (case k1 => k_asm); (case k2 => k_asm); (case k3 => k_asm); (case k4 => k_asm); (case k5 => k_asm); (case k6 => k_is); (case k7 => k_is); (case k8 => ktr_room); (case k9 => exact BindsTo.of_eq rfl); (case c5 => decide); (case kB => exact locs rfl); (case c2 => exact rfl); (case c3 => exact rfl); (case c4 => exact rfl); k_whole; intro g' L' h' FG' F' N' B' X' T'; (try dsimp only); (try k_lift B'); (try k_fold))
  (refine WsL.elimB W ?_; intro fd T1 T2 ws x a1 a2 a3 a4 a5 t1 t2 t3 t4 t5 kx kn knt kb m1 m2 m3 m4  hws b1 b2 b3 b4 b5)
  have hsz : ws.size = st.cnt.length := hws.1
  k_steps
  exact hret _ _ (by k_asm) (cb_drop (by k_asm) (by intro p hp; repeat (first | exact hp | apply List.Mem.tail))) rfl rfl
end
section
open PySem PySem.Spec PySem.Calls PySem.W PyProof.Rows
set_option maxRecDepth 100000
set_option maxHeartbeats 400000
noncomputable def dI (n : Nat) : PyData := .int (n : Int)
noncomputable def dT (l : List Nat) : PyData := .tuple (l.map dI)
noncomputable def dTri (p : Nat × Nat × Nat) : PyData := .tuple [dI p.1, dI p.2.1, dI p.2.2]
theorem eqvAll_map {α : Type} [DecidableEq α] {e : α → PyData} (h : ∀ a b, PyData.eqv (e a) (e b) = decide (a = b)) : ∀ l l' : List α, PyData.eqvAll (l.map e) (l'.map e) = decide (l = l')
  | [], [] => rfl
  | [], _ :: _ => by simp [PyData.eqvAll]
  | _ :: _, [] => by simp [PyData.eqvAll]
  | a :: l, b :: l' => by
    have ih := eqvAll_map h l l'
    simp only [List.map_cons, PyData.eqvAll, h, ih]
    by_cases h1 : a = b <;> by_cases h2 : l = l' <;> simp [h1, h2]
theorem eqv_dI (a b : Nat) : PyData.eqv (dI a) (dI b) = decide (a = b) := by
  unfold dI PyData.eqv
  by_cases h : a = b <;> simp [h]
  (first | lia | omega)
theorem eqv_dTri (p q : Nat × Nat × Nat) : PyData.eqv (dTri p) (dTri q) = decide (p = q) := by
  obtain ⟨a, b, c⟩ := p
  obtain ⟨a', b', c'⟩ := q
  simp only [dTri, PyData.eqv, PyData.eqvAll, eqv_dI, Bool.and_true]
  by_cases h1 : a = a' <;> by_cases h2 : b = b' <;> by_cases h3 : c = c' <;> simp [h1, h2, h3]
theorem eqv_dT (l l' : List Nat) : PyData.eqv (dT l) (dT l') = decide (l = l') := by
  unfold dT PyData.eqv
  exact eqvAll_map eqv_dI l l'
theorem lay_map {α : Type} {e : α → PyData} (h : ∀ a, PyData.canLay0 (e a) = true) : ∀ l : List α, PyData.canLayAll0 (l.map e) = true
  | [] => rfl
  | a :: l => by simp [PyData.canLayAll0, h a, lay_map h l]
theorem depth_map {α : Type} {e : α → PyData} {k : Nat} (h : ∀ a, PyData.depth (e a) ≤ k) : ∀ l : List α, PyData.depthAll (l.map e) ≤ k
  | [] => Nat.zero_le _
  | a :: l => by
    have h1 := h a
    have h2 := depth_map h l
    simp only [List.map_cons, PyData.depthAll]
    (first | lia | omega)
theorem lay_dT (l : List Nat) : PyData.canLay0 (dT l) = true := by unfold dT PyData.canLay0; exact lay_map (fun a => by simp [dI, PyData.canLay0]) l
theorem depth_dT (l : List Nat) : PyData.depth (dT l) ≤ 1 := by
  unfold dT PyData.depth
  have := depth_map (e := dI) (k := 0) (fun a => by simp [dI, PyData.depth]) l
  (first | lia | omega)
theorem lay_dTri (p : Nat × Nat × Nat) : PyData.canLay0 (dTri p) = true := by simp [dTri, dI, PyData.canLay0, PyData.canLayAll0]
theorem depth_dTri (p : Nat × Nat × Nat) : PyData.depth (dTri p) ≤ 1 := by simp [dTri, dI, PyData.depth, PyData.depthAll]
section
variable {h : Heap} {g : Heap} {L : Addr} {news : List (Addr × Obj)}
theorem readsAll_of {α : Type} {e : α → PyData} : ∀ {vs : List Value} {l : List α}, vs.length = l.length → (∀ i (hi : i < l.length), ∃ v, vs[i]? = some v ∧ Reads h v (e l[i]) []) → ReadsAll h vs (l.map e) []
  | [], [], _, _ => .nil
  | [], _ :: _, h, _ => by simp at h
  | _ :: _, [], h, _ => by simp at h
  | v :: vs, a :: l, hl, hi => by
    obtain ⟨v', e1, hr⟩ := hi 0 (by simp)
    have : v = v' := by simpa using e1
    subst this
    exact .cons (as := []) hr (readsAll_of (by simpa using hl) fun i hi' => by
      obtain ⟨v2, e2, hr2⟩ := hi (i + 1) (by simpa using hi')
      exact ⟨v2, by simpa using e2, by simpa using hr2⟩)
theorem IntsL.readsAll {ws : Array Value} {l : List Nat} (hw : IntsL ws l) : ReadsAll h ws.toList (l.map dI) [] := readsAll_of (by rw [Array.length_toList]; exact hw.1) fun i hi => by
  obtain ⟨tk, e⟩ := hw.2 i hi
  exact ⟨_, by rw [Array.getElem?_toList]; exact e, .int _ _⟩
theorem reads_dT (N : News g L h news) {T : Addr} {ws : Array Value} {l : List Nat} (hm : (T, tupOf ws) ∈ news) (hw : IntsL ws l) : Reads h (.ref T) (dT l) [] := reads_tuple_at (N _ hm).1 rfl rfl hw.readsAll
noncomputable def dNorm (st : WSt) : PyData := .tuple [dT st.cnt, dI st.b]
theorem eqv_dNorm (s t : WSt) : PyData.eqv (dNorm s) (dNorm t) = decide (s.cnt = t.cnt ∧ s.b = t.b) := by
  simp only [dNorm, PyData.eqv, PyData.eqvAll, eqv_dT, eqv_dI, Bool.and_true]
  by_cases h1 : s.cnt = t.cnt <;> by_cases h2 : s.b = t.b <;> simp [h1, h2]
theorem shaped_dNorm (s : WSt) : SeqAt.shaped (dNorm s) = true := by
  have h1 := lay_dT s.cnt
  have h2 := depth_dT s.cnt
  unfold SeqAt.shaped
  have h3 : (dNorm s).canLay0 = true := by simp [dNorm, dI, PyData.canLay0, PyData.canLayAll0, h1]
  have h4 : (dNorm s).depth ≤ 64 := by simp [dNorm, dI, PyData.depth, PyData.depthAll]; (first | lia | omega)
  rw [h3, decide_eq_true h4]; rfl
noncomputable def TripsL (news : List (Addr × Obj)) (vs : Array Value) (l : List (Nat × Nat × Nat)) : Prop := vs.size = l.length ∧ ∀ i (hi : i < l.length), ∃ (T : Addr) (k1 k2 k3 : Tok), vs[i]? = some (.ref T) ∧ (T, tupOf #[.int (l[i].1 : Int) k1, .int (l[i].2.1 : Int) k2, .int (l[i].2.2 : Int) k3]) ∈ news
theorem TripsL.mono {news' : List (Addr × Obj)} {vs : Array Value} {l : List (Nat × Nat × Nat)} (H : TripsL news vs l) (hs : ∀ y ∈ news, y ∈ news') : TripsL news' vs l := ⟨H.1, fun i hi => let ⟨T, k1, k2, k3, e, hm⟩ := H.2 i hi; ⟨T, k1, k2, k3, e, hs _ hm⟩⟩
theorem TripsL.nil : TripsL news #[] [] := ⟨rfl, fun i hi => by cases hi⟩
theorem TripsL.push {vs : Array Value} {l : List (Nat × Nat × Nat)} (H : TripsL news vs l) {T : Addr} {a b c : Nat} {k1 k2 k3 : Tok} (hm : (T, tupOf #[.int (a : Int) k1, .int (b : Int) k2, .int (c : Int) k3]) ∈ news) : TripsL news (vs.push (.ref T)) (l ++ [(a, b, c)]) := by
  refine ⟨by simp [H.1], fun i hi => ?_⟩
  rw [List.length_append, List.length_singleton] at hi
  by_cases hlt : i < l.length
  · obtain ⟨T', k1', k2', k3', e, hm'⟩ := H.2 i hlt
    refine ⟨T', k1', k2', k3', ?_, ?_⟩
    · rw [Array.getElem?_push_lt (by rw [H.1]; exact hlt)]
      rw [Array.getElem?_eq_getElem (by rw [H.1]; exact hlt)] at e
      exact e
    · rw [List.getElem_append_left hlt]; exact hm'
  · have hi' : i = l.length := by (first | lia | omega)
    subst hi'
    refine ⟨T, k1, k2, k3, ?_, ?_⟩
    · rw [← H.1]; simp
    · rw [List.getElem_append_right (Nat.le_refl _)]; simpa using hm
theorem reads_trips (N : News g L h news) {D : Addr} {n : Nat} {vs : Array Value} {l : List (Nat × Nat × Nat)} (hm : (D, listOf vs n) ∈ news) (H : TripsL news vs l) : Reads h (.ref D) (.list (l.map dTri)) [D] := reads_list_at (as := []) (N _ hm).1 rfl rfl (readsAll_of (by rw [Array.length_toList]; exact H.1) fun i hi => by
  obtain ⟨T, k1, k2, k3, e, hm'⟩ := H.2 i hi
  exact ⟨_, by rw [Array.getElem?_toList]; exact e, reads_tuple_at (N _ hm').1 rfl rfl (.cons (as := []) (.int _ _) (.cons (as := []) (.int _ _) (.cons (as := []) (.int _ _) .nil)))⟩)
theorem shaped_trips (l : List (Nat × Nat × Nat)) : SeqAt.shaped (.list (l.map dTri)) = true := by
  have h1 : PyData.canLay0 (.list (l.map dTri)) = true := by unfold PyData.canLay0; exact lay_map lay_dTri l
  have h2 : PyData.depth (.list (l.map dTri)) ≤ 64 := by
    unfold PyData.depth
    have := depth_map (e := dTri) depth_dTri l
    (first | lia | omega)
  unfold SeqAt.shaped
  rw [h1, decide_eq_true h2]; rfl
theorem eqv_trips (l l' : List (Nat × Nat × Nat)) : PyData.eqv (.list (l.map dTri)) (.list (l'.map dTri)) = decide (l = l') := by
  unfold PyData.eqv
  exact eqvAll_map eqv_dTri l l'
end
section
variable {w : World} {A : Around} {E : Value → Shared → Prop} {s : Shared} {h₀ : Heap} {L : Addr} {m : Str → Option Value} {news : List (Addr × Obj)}
theorem norm_eq {T1 T1' T2 T2' : Addr} {ws ws' : Array Value} {st st' : WSt} {kb kb' : Tok} {Q : Value → Shared → Prop} (N : News h₀ L s.heap news) (m1 : (T1, tupOf #[.ref T2, .int (st.b : Int) kb]) ∈ news) (m2 : (T2, tupOf ws) ∈ news) (hw : IntsL ws st.cnt)
    (m1' : (T1', tupOf #[.ref T2', .int (st'.b : Int) kb']) ∈ news) (m2' : (T2', tupOf ws') ∈ news) (hw' : IntsL ws' st'.cnt) (hu : A.units + 64 < cLine) (h : Q (.bool (decide (st.cnt = st'.cnt ∧ st.b = st'.b))) s) : wpAny (model PG w) A (compareOp .Eq (.ref T1) (.ref T1')) Q E s := by
  have r1 : Reads s.heap (.ref T1) (dNorm st) [] := reads_tuple_at (N _ m1).1 rfl rfl (.cons (as := []) (reads_dT N m2 hw) (.cons (as := []) (.int _ _) .nil))
  have r2 : Reads s.heap (.ref T1') (dNorm st') [] := reads_tuple_at (N _ m1').1 rfl rfl (.cons (as := []) (reads_dT N m2' hw') (.cons (as := []) (.int _ _) .nil))
  refine eq_dataH r1 r2 (shaped_dNorm st) (shaped_dNorm st') hu ?_
  rw [eqv_dNorm]
  exact h
theorem trips_ne {D D' : Addr} {n n' : Nat} {vs vs' : Array Value} {l l' : List (Nat × Nat × Nat)} {Q : Value → Shared → Prop} (N : News h₀ L s.heap news) (m1 : (D, listOf vs n) ∈ news) (H : TripsL news vs l) (m2 : (D', listOf vs' n') ∈ news) (H' : TripsL news vs' l') (hu : A.units + 64 < cLine)
    (h : Q (.bool (!decide (l = l'))) s) : wpAny (model PG w) A (compareOp .NotEq (.ref D) (.ref D')) Q E s := by
  refine ne_dataH (reads_trips N m1 H) (reads_trips N m2 H') (shaped_trips l) (shaped_trips l') hu ?_
  rw [eqv_trips]
  exact h
theorem trips_eq {D D' : Addr} {n n' : Nat} {vs vs' : Array Value} {l l' : List (Nat × Nat × Nat)} {Q : Value → Shared → Prop} (N : News h₀ L s.heap news) (m1 : (D, listOf vs n) ∈ news) (H : TripsL news vs l) (m2 : (D', listOf vs' n') ∈ news) (H' : TripsL news vs' l') (hu : A.units + 64 < cLine)
    (h : Q (.bool (decide (l = l'))) s) : wpAny (model PG w) A (compareOp .Eq (.ref D) (.ref D')) Q E s := by
  refine eq_dataH (reads_trips N m1 H) (reads_trips N m2 H') (shaped_trips l) (shaped_trips l') hu ?_
  rw [eqv_trips]
  exact h
end
end
section
open PySem PySem.Spec PySem.Calls PySem.W PyProof.Rows
set_option maxRecDepth 100000
set_option maxHeartbeats 400000
noncomputable def WhileOf (w : World) (A : Around) (E : Value → Shared → Prop) (env : Env) (test : Expr) (body : List Stmt) (Q : Flow → Shared → Prop) (s : Shared) : Prop :=
  codeAny (model PG w) A (.whileLoop test body [] env) (fun r s' => match r with | .ok f => Q f s' | .error e => cameBackBy (model PG w) A env E e s') s
noncomputable def WNext (h₀ : Heap) (L : Addr) (J : Nat → List (Addr × Obj) → (Str → Option Value) → Array GenState → OsState → Prop) (k : Nat) (s : Shared) : Prop :=
  ∃ k' nw' m', k' < k ∧ J k' nw' m' s.gens s.os ∧ Fr h₀ L s.heap m' ∧ News h₀ L s.heap nw'
theorem kl_last_snoc : ∀ (p : List Value) (y : Value), kl_last (p ++ [y]) = some (p, y)
  | [], _ => rfl
  | x :: p, y => by
    have ih := kl_last_snoc p y
    show kl_last (x :: (p ++ [y])) = _
    unfold kl_last
    rw [ih]
theorem IntsL.split {its : Array Value} {ks : List Nat} {x : Nat} (h : IntsL its (ks ++ [x])) : ∃ p tk, its.toList = p ++ [.int (x : Int) tk] ∧ IntsL p.toArray ks := by
  obtain ⟨tk, e⟩ := h.2 ks.length (by simp)
  have hn : its.size = ks.length + 1 := by rw [h.1]; simp
  have hl2 : its.toList.length = ks.length + 1 := hn
  refine ⟨its.toList.take ks.length, tk, ?_, ?_, ?_⟩
  · apply List.ext_getElem?
    intro i
    rw [List.getElem?_append]
    have hl : (its.toList.take ks.length).length = ks.length := by rw [List.length_take, hl2]; (first | lia | omega)
    rw [hl]
    split
    · rename_i hi; rw [List.getElem?_take_of_lt hi]
    · rename_i hi
      by_cases h2 : i = ks.length
      · subst h2
        rw [Array.getElem?_toList, e]
        simp
      · rw [List.getElem?_eq_none (by rw [hl2]; (first | lia | omega)), List.getElem?_eq_none (by simp; (first | lia | omega))]
  · rw [List.size_toArray, List.length_take, hl2]; (first | lia | omega)
  · intro i hi
    obtain ⟨tk', e'⟩ := h.2 i (by simp; (first | lia | omega))
    refine ⟨tk', ?_⟩
    rw [List.getElem?_toArray, List.getElem?_take_of_lt hi, Array.getElem?_toList, e', List.getElem_append_left hi]
section
variable {w : World} {A : Around} {E : Value → Shared → Prop} {s : Shared} {h₀ : Heap} {L : Addr} {m : Str → Option Value} {env : Env} {news : List (Addr × Obj)}
theorem While_go {test : Expr} {body : List Stmt} {pos : Pos} {Q : Flow → Shared → Prop} (h : WhileOf w A E env test body Q s) : wpAny (model PG w) A (exec (.While test body [] pos) env) Q E s := wpAny_While h
theorem while_core {test : Expr} {body : List Stmt} {Q : Flow → Shared → Prop} (J : Nat → List (Addr × Obj) → (Str → Option Value) → Array GenState → OsState → Prop) (k : Nat)
    (F : Fr h₀ L s.heap m) (N : News h₀ L s.heap news) (hJ : J k news m s.gens s.os)
    (hbody : ∀ k nw m₁ s₁ E', J k nw m₁ s₁.gens s₁.os → Fr h₀ L s₁.heap m₁ → News h₀ L s₁.heap nw →
      wpAny (model PG w) A (isTrue test env (eval test env)) (fun b s₂ => if b = true then wpAny (model PG w) A (execs body env) (fun f s₃ => match f with
          | .next | .cont => WNext h₀ L J k s₃
          | .brk => Q .next s₃
          | .ret v => Q (.ret v) s₃) E' s₂ else Q .next s₂) E' s₁) : WhileOf w A E env test body Q s := by
  refine codeAny_whileLoop (fun k s' => ∃ nw m₁, J k nw m₁ s'.gens s'.os ∧ Fr h₀ L s'.heap m₁ ∧ News h₀ L s'.heap nw) (fun k s' hI => ?_) k ⟨news, m, hJ, F, N⟩
  obtain ⟨nw, m₁, h1, h2, h3⟩ := hI
  refine wpAny_mono (hbody k nw m₁ s' _ h1 h2 h3) (fun b s₂ h => ?_) fun _ _ x => x
  cases b with
  | true =>
    refine wpAny_mono h (fun f s₃ hf => ?_) fun _ _ x => x
    cases f with
    | next | cont => obtain ⟨k', nw', m', a, b, c, d⟩ := hf; exact ⟨k', a, nw', m', b, c, d⟩
    | brk => exact hf
    | ret v => exact hf
  | false => exact wpAny_execs_nil h
theorem pop_K {D : Addr} {its : Array Value} {n : Nat} {ks : List Nat} {x : Nat} {g : Obj → List (Addr × Obj)} {Q : Value → Shared → Prop} (F : Fr h₀ L s.heap m) (N : News h₀ L s.heap news) (hi : IntsL its (ks ++ [x])) (U : UpdF D (listOf its n) news g) (hz : its.size ≤ 1000)
    (h : ∀ h' its' n' tk, Fr h₀ L h' m → News h₀ L h' (g (listOf its' n')) → IntsL its' ks → Q (.int (x : Int) tk) { s with heap := h' }) : wpAny (model PG w) A (call (.builtin "list.pop") [.ref D]) Q E s := by
  obtain ⟨p, tk, e, hp⟩ := hi.split
  refine kl_pop F N (p := p) (by rw [e]; exact kl_last_snoc _ _) (updF_upd U) (by rw [sizeLine_eq, Array.length_toList]; (first | lia | omega)) fun h' F' N' => h h' _ _ tk F' N' hp
theorem snoc_cases : ∀ l : List Nat, l = [] ∨ ∃ l' x, l = l' ++ [x]
  | [] => .inl rfl
  | a :: l => by
    rcases snoc_cases l with rfl | ⟨l', x, rfl⟩
    · exact .inr ⟨[], a, rfl⟩
    · exact .inr ⟨a :: l', x, rfl⟩
theorem reads_ints {h : Heap} {g : Heap} (N : News g L h news) {D : Addr} {n : Nat} {vs : Array Value} {l : List Nat} (hm : (D, listOf vs n) ∈ news) (H : IntsL vs l) : Reads h (.ref D) (.list (l.map dI)) [D] := reads_list_at (as := []) (N _ hm).1 rfl rfl H.readsAll
theorem shaped_ints (l : List Nat) : SeqAt.shaped (.list (l.map dI)) = true := by
  have h1 : PyData.canLay0 (.list (l.map dI)) = true := by unfold PyData.canLay0; exact lay_map (fun a => by simp [dI, PyData.canLay0]) l
  have h2 : PyData.depth (.list (l.map dI)) ≤ 64 := by
    unfold PyData.depth
    have := depth_map (e := dI) (k := 0) (fun a => by simp [dI, PyData.depth]) l
    (first | lia | omega)
  unfold SeqAt.shaped
  rw [h1, decide_eq_true h2]; rfl
theorem eqv_ints (l l' : List Nat) : PyData.eqv (.list (l.map dI)) (.list (l'.map dI)) = decide (l = l') := by
  unfold PyData.eqv
  exact eqvAll_map eqv_dI l l'
theorem ints_ne {D D' : Addr} {n n' : Nat} {vs vs' : Array Value} {l l' : List Nat} {Q : Value → Shared → Prop} (N : News h₀ L s.heap news) (m1 : (D, listOf vs n) ∈ news) (H : IntsL vs l) (m2 : (D', listOf vs' n') ∈ news) (H' : IntsL vs' l') (hu : A.units + 64 < cLine)
    (h : Q (.bool (!decide (l = l'))) s) : wpAny (model PG w) A (compareOp .NotEq (.ref D) (.ref D')) Q E s := by
  refine ne_dataH (reads_ints N m1 H) (reads_ints N m2 H') (shaped_ints l) (shaped_ints l') hu ?_
  rw [eqv_ints]
  exact h
theorem ints_neY {D D' : Addr} {n n' : Nat} {vs : Array Value} {l : List Nat} {Q : Value → Shared → Prop} (N : News h₀ L s.heap news) (m1 : (D, listOf vs n) ∈ news) (H : IntsL vs l) (m2 : (D', listOf #[] n') ∈ news) (hne : l ≠ []) (hu : A.units + 64 < cLine)
    (h : Q (.bool true) s) : wpAny (model PG w) A (compareOp .NotEq (.ref D) (.ref D')) Q E s := by
  refine ints_ne N m1 H m2 IntsL.nil hu ?_
  rw [decide_eq_false hne]
  exact h
theorem ints_neN {D D' : Addr} {n n' : Nat} {vs : Array Value} {Q : Value → Shared → Prop} (N : News h₀ L s.heap news) (m1 : (D, listOf vs n) ∈ news) (H : IntsL vs []) (m2 : (D', listOf #[] n') ∈ news) (hu : A.units + 64 < cLine)
    (h : Q (.bool false) s) : wpAny (model PG w) A (compareOp .NotEq (.ref D) (.ref D')) Q E s := by
  refine ints_ne N m1 H m2 IntsL.nil hu ?_
  exact h
theorem ints_eq {D D' : Addr} {n n' : Nat} {vs vs' : Array Value} {l l' : List Nat} {Q : Value → Shared → Prop} (N : News h₀ L s.heap news) (m1 : (D, listOf vs n) ∈ news) (H : IntsL vs l) (m2 : (D', listOf vs' n') ∈ news) (H' : IntsL vs' l') (hu : A.units + 64 < cLine)
    (h : Q (.bool (decide (l = l'))) s) : wpAny (model PG w) A (compareOp .Eq (.ref D) (.ref D')) Q E s := by
  refine eq_dataH (reads_ints N m1 H) (reads_ints N m2 H') (shaped_ints l) (shaped_ints l') hu ?_
  rw [eqv_ints]
  exact h
noncomputable def dS (x : Str) : PyData := .str x
theorem eqv_dS (a b : Str) : PyData.eqv (dS a) (dS b) = decide (a = b) := by
  unfold dS PyData.eqv
  by_cases h : a = b <;> simp [h]
theorem strs_reads {h : Heap} : ∀ {vs : List Value} {l : List Str}, StrsAre vs l → ReadsAll h vs (l.map dS) []
  | _, _, .nil => .nil
  | _, _, .cons x t r => .cons (as := []) (.str _ _) (strs_reads r)
theorem reads_strs {h : Heap} {g : Heap} (N : News g L h news) {D : Addr} {n : Nat} {vs : Array Value} {l : List Str} (hm : (D, listOf vs n) ∈ news) (H : StrsAre vs.toList l) : Reads h (.ref D) (.list (l.map dS)) [D] := reads_list_at (as := []) (N _ hm).1 rfl rfl (strs_reads H)
theorem shaped_strs (l : List Str) (hok : ∀ x ∈ l, PyData.canLay0 (dS x) = true) : SeqAt.shaped (.list (l.map dS)) = true := by
  have h1 : PyData.canLay0 (.list (l.map dS)) = true := by
    unfold PyData.canLay0
    induction l with
    | nil => rfl
    | cons x l ih => simp [PyData.canLayAll0, hok x (.head _), ih fun y hy => hok y (.tail _ hy)]
  have h2 : PyData.depth (.list (l.map dS)) ≤ 64 := by
    unfold PyData.depth
    have := depth_map (e := dS) (k := 0) (fun a => by simp [dS, PyData.depth]) l
    (first | lia | omega)
  unfold SeqAt.shaped
  rw [h1, decide_eq_true h2]; rfl
theorem strs_ne {D D' : Addr} {n n' : Nat} {vs vs' : Array Value} {l l' : List Str} {Q : Value → Shared → Prop} (N : News h₀ L s.heap news) (m1 : (D, listOf vs n) ∈ news) (H : StrsAre vs.toList l) (m2 : (D', listOf vs' n') ∈ news) (H' : StrsAre vs'.toList l') (hok : ∀ x ∈ l, PyData.canLay0 (dS x) = true) (hok' : ∀ x ∈ l', PyData.canLay0 (dS x) = true) (hu : A.units + 64 < cLine)
    (h : Q (.bool (!decide (l = l'))) s) : wpAny (model PG w) A (compareOp .NotEq (.ref D) (.ref D')) Q E s := by
  refine ne_dataH (reads_strs N m1 H) (reads_strs N m2 H') (shaped_strs l hok) (shaped_strs l' hok') hu ?_
  have : PyData.eqv (.list (l.map dS)) (.list (l'.map dS)) = decide (l = l') := by
    unfold PyData.eqv
    exact eqvAll_map eqv_dS l l'
  rw [this]
  exact h
end
end
section
open PySem PySem.Spec PySem.Calls PySem.W PyProof.Rows
set_option maxRecDepth 100000
set_option maxHeartbeats 0
noncomputable def qt (n : Nat) : Str := ⟨(List.replicate n 34).toArray⟩
theorem qt_len (n : Nat) : (qt n).length = n := by simp [qt, Str.length]
theorem mul_qt {n : Nat} : Txt.mul (Str.ofString "\"") (n : Int) = qt n := by
  have e : (Str.ofString "\"").cps = #[34] := by decide
  unfold Txt.mul
  by_cases h0 : (n : Int) < 1
  · have : n = 0 := by (first | lia | omega)
    subst this
    rw [if_pos h0]; rfl
  · rw [if_neg h0]
    by_cases h1 : n = 1
    · subst h1
      rw [if_pos (by simp)]
      decide
    · rw [if_neg (by rw [show (Str.ofString "\"").length = 1 by decide]; simp; (first | lia | omega)), e, Int.toNat_natCast]
      apply str_ext
      have g : ∀ (k : Nat) (a : Array Nat), ((List.replicate k (#[34] : Array Nat)).foldl (· ++ ·) a).toList = a.toList ++ List.replicate k 34 := by
        intro k
        induction k with
        | zero => intro a; simp
        | succ k ih => intro a; rw [List.replicate_succ, List.foldl_cons, ih]; simp [List.replicate_succ]
      show ((List.replicate n (#[34] : Array Nat)).foldl (· ++ ·) #[]).toList = _
      rw [g]
      simp [qt]
theorem mul_okq {n : Nat} (h : n ≤ 4) : MulOk (Str.ofString "\"") (n : Int) := by
  have hl : (Str.ofString "\"").length = 1 := by decide
  refine ⟨by simp; (first | lia | omega), fun h1 _ => ?_, fun _ _ => ?_⟩
  · have : (1 : Int) ≤ (2 ^ 63 - 1) / (n : Int) := Int.le_ediv_of_mul_le (by (first | lia | omega)) (by (first | lia | omega))
    (first | lia | omega)
  · unfold Builtin.Str.tooLong
    rw [sizeLine_eq, hl]
    exact decide_eq_false (by simp; (first | lia | omega))
noncomputable def px (q : Nat) : Str := Str.ofString "257 \"" ++ qt q
theorem px_facts : ∀ q ∈ List.range 5, Txt.slice (px q) none (some 3) = Str.ofString "257" ∧ Txt.slice (px q) (some 3) (some 5) = Str.ofString " \"" ∧ (px q).length = 5 + q ∧ ∀ i ∈ List.range q, Txt.item (px q) ((5 + i : Nat) : Int) = Str.ofString "\"" := by decide +kernel
theorem qt_snoc (j : Nat) : qt j ++ Str.ofString "\"" = qt (j + 1) := by
  apply str_ext
  rw [cps_app, show (Str.ofString "\"").cps.toList = [34] by decide]
  simp [qt, List.replicate_succ']
theorem ne_facts {w : World} {A : Around} {E : Value → Shared → Prop} {s : Shared} {x y : Str} {t u : Tok} {Q : Value → Shared → Prop} (e : x = y) (h : Q (.bool false) s) : wpAny (model PG w) A (compareOp .NotEq (.str x t) (.str y u)) Q E s :=
  ne_str (by simpa [e] using h)
theorem rows_S18_1 : True := by
  k_with_none
  w_top off
  k_with "zv" => ((repeat (first | (refine Eq.trans (ite_off ?_) ?_; focus decide) | (refine Eq.trans (upd_off ?_) ?_; focus decide))); first | with_reducible assumption | exact if_pos rfl | exact upd_on)
  k_with "k_mem" => (assumption)
  k_with "k_ne" => (first | exact ne_mem1 (by with_reducible assumption) (by with_reducible assumption) | exact ne_mem2 (by with_reducible assumption) (by with_reducible assumption))
  k_with "wpAt" => ((fail_if_success ks_step "execs cons"); dsimp only; ks_step "execs cons"; refine ks_wpAt_execs_cons ?_)
  k_with "wpAt" => (ks_step "eval Call"; k_dflt (refine ks_wpAt_MethodCall ?_))
  k_with "k_ne" => (first | exact ne_mem1 (by with_reducible assumption) (by with_reducible assumption) | exact ne_mem1 (And.right (by with_reducible assumption)) (by with_reducible assumption) | exact ne_mem1 (And.right (And.right (by with_reducible assumption))) (by with_reducible assumption) | exact ne_mem1 (And.right (And.right (And.right (by with_reducible assumption)))) (by with_reducible assumption) | exact ne_mem1 (And.right (And.right (And.right (And.right (by with_reducible assumption))))) (by with_reducible assumption) | exact ne_mem1 (And.right (And.right (And.right (And.right (And.right (by with_reducible assumption)))))) (by with_reducible assumption) | exact ne_mem1 (And.right (And.right (And.right (And.right (And.right (And.right (by with_reducible assumption))))))) (by with_reducible assumption))
  k_with "k_mem" => (first | with_reducible assumption | with_reducible exact List.Mem.head _ | with_reducible exact List.Mem.tail _ (by assumption) | with_reducible exact List.Mem.tail _ (List.Mem.tail _ (by assumption)) | with_reducible exact List.Mem.tail _ (List.Mem.tail _ (List.Mem.tail _ (by assumption))))
  k_with "compareOp NotEq str str" => (k_here; k_dflt (refine ne_facts (by with_reducible assumption) ?_; k_whole))
  k_with "compareOp Eq str str" => (k_here; k_dflt (refine eq_yes (by with_reducible assumption) ?_; k_whole))
  k_with "exec While" => (refine While_go ?_)
  k_with "eval Name" => (k_here; k_dflt (first | (refine nameX_K (by k_asm) (by k_asm) (by k_asm) (by k_is) ?_ (by rfl) (by rfl); k_whole) | (refine nameX_B (by k_asm) (by k_asm) (by k_asm) (by k_is) (by boot_fast) (by decide) ?_ (by rfl) (by rfl); k_whole)))
  k_with "eval Name" => ((first | ((with_reducible show wpAny _ _ (eval (Expr.Name _ _) (envOf _ _ _ _ _)) _ _ _); refine ld (by assumption) (by walk_at "zv") ?_) | ((with_reducible show wpAny _ _ (eval (Expr.Name _ _) (envOfC _ _ _ _ _)) _ _ _); refine ldC (by assumption) (by walk_at "zv") ?_)); k_whole)
  k_with "exec For" => (refine For_loop ?_ (by intro _; with_unfolding_all rfl))
  k_with "exec For Name Call cons nil" => (refine For_loop ?_ (by intro _; with_unfolding_all rfl))
  k_with "exec For Name Name cons nil" => (refine For_loop ?_ (by intro _; with_unfolding_all rfl))
  k_with "exec For Name Attribute cons nil" => (refine For_loop ?_ (by intro _; with_unfolding_all rfl))
  k_with "execs cons" => (first | (k_here; k_gentoks) | ((try (rename Flow → Shared → Prop => qq; clear qq)); (try (rename Value → Shared → Prop => qq; clear qq)); refine wpAny_execs_cons ?_; (try dsimp only); k_fold))
  k_with "binaryOp Add str str" => (refine HoldK.of ?_)
  trivial
theorem parse_all : ∀ {w : World} {loose : List Str} {mean : ExcName → Option Value} {mg mb : Str → Option Value} {dp un : Nat} {gd : Option (List Code)} {cn : Str} {cs : Scope} {a : Addr} {ccd : Value} {cl : List (Str × Addr)} {outer : List Env} {A₀ : Around} {base h₀ : Heap} {L : Addr} {m : Str → Option Value} {s : Shared} {Q E : Value → Shared → Prop} {news : List (Addr × Obj)} {q : Nat} {kr : Tok}
  (B : Below A₀ base outer h₀) (F : Fr h₀ L s.heap m) (X : (fr.heap_1 w.params).In h₀) (N : News h₀ L s.heap news) (T : Top topProg loose mean mg mb h₀) (hk : cs.kind = .function) (hdp : dp + 12 < recursionLimit) (hun : un + 160 < cLine) (hq : q ≤ 4) (hret : ∀ k₁ (s₁ : Shared), Fr h₀ L s₁.heap m → News h₀ L s₁.heap news → s₁.gens = s.gens → s₁.os = s.os → Q (.str (qt (q / 2)) k₁) s₁),
  wpAny (model PySem.Challenge.rw_wu0100_01.row.prog w) (ktrTop dp un gd cn cs L a ccd cl outer) (call (.ref 214) [.str (Str.ofString "257 \"" ++ qt q) kr]) Q E s := by
  k_fill
  intro w loose mean mg mb dp un gd cn cs a ccd cl outer A₀ base h₀ L m s Q E news q kr B F X N T hk hdp hun hq hret
  refine wpAny_call ?_
  k_dflt (refine' code_def ?k1 ?k2 ?k3 ?k4 ?k5 ?kA ?kF ?kK ?k6 ?k7 ?k8 ?k9 ?kB ?_ ?c2 ?c3 ?c4 ?c5; (case kA => exact rfl); (case kF => exact rfl); (case kK => first | exact rfl | assumption); (case k1 => k_asm); (case k2 => k_asm); (case k3 => k_asm); (case k4 => k_asm); (case k5 => k_asm); (case k6 => k_is); (case k7 => k_is); (case k8 => ktr_room); (case k9 => exact BindsTo.of_eq rfl); (case c5 => decide); (case kB => exact locs rfl); (case c2 => exact rfl); (case c3 => exact rfl); (case c4 => exact rfl); k_whole; intro g' L' h' FG' F' N' B' X' T'; (try dsimp only); (try k_lift B'); (try k_fold))
  obtain ⟨hx1, hx2, hlen, hit⟩ := px_facts q (List.mem_range.2 (by (first | lia | omega)))
  obtain ⟨x, hx⟩ : ∃ x, x = px q := ⟨_, rfl⟩
  rw [show Str.ofString "257 \"" ++ qt q = x from hx.symm] at F'
  rw [← hx] at hx1 hx2 hlen hit
  clear hx
  obtain ⟨M0', f1, F0⟩ := fr_gen (P := fun M => M (Str.ofString "resp") = some (.str x kr)) F' rfl
  clear F'
  k_steps
  rename Fr g' L' _ _ => F9
  rename News g' L' _ _ => N9
  refine while_core (fun k nw m₁ g o => nw = news ∧ g = s.gens ∧ o = s.os ∧ ∃ j ki kd kn, 2 * j ≤ q ∧ k = q - 2 * j ∧ m₁ (Str.ofString "resp") = some (.str x kr) ∧ m₁ (Str.ofString "i") = some (.int ((5 + 2 * j : Nat) : Int) ki) ∧ m₁ (Str.ofString "dirname") = some (.str (qt j) kd) ∧ m₁ (Str.ofString "n") = some (.int ((5 + q : Nat) : Int) kn)) q F9 N9 ?_ ?_
  · have z0 : ∀ M : Str → Option Value, M (Str.ofString "resp") = some (.str x kr) ∧ (∃ ki, M (Str.ofString "i") = some (.int 5 ki)) ∧ (∃ kd, M (Str.ofString "dirname") = some (.str (Str.ofString "") kd)) ∧ (∃ kn, M (Str.ofString "n") = some (.int (x.length : Int) kn)) → ∃ j ki kd kn, 2 * j ≤ q ∧ q = q - 2 * j ∧ M (Str.ofString "resp") = some (.str x kr) ∧ M (Str.ofString "i") = some (.int ((5 + 2 * j : Nat) : Int) ki) ∧ M (Str.ofString "dirname") = some (.str (qt j) kd) ∧ M (Str.ofString "n") = some (.int ((5 + q : Nat) : Int) kn) := fun M ⟨a, ⟨ki, b⟩, ⟨kd, c⟩, ⟨kn, d⟩⟩ => ⟨0, ki, kd, kn, Nat.zero_le _, rfl, a, b, c, by rw [← hlen]; exact d⟩
    refine' ⟨rfl, rfl, rfl, (fun {M} (_ : Fr g' L' _ M) h => z0 M h) F9 ⟨?_, ⟨_, ?_⟩, ⟨_, ?_⟩, ⟨_, ?_⟩⟩⟩
    all_goals (try ((repeat (refine Eq.trans (if_neg ?_) ?_; focus decide)); first | exact if_pos rfl | exact f1))
  · clear F9 N9
    intro k nw m₁ s₁ E' hJ F7 N7
    k_fold
    obtain ⟨hnw, hg, hos, j, ki, kd, kn, hj, hk, p1, p2, p3, p4⟩ := hJ
    subst hnw
    have i1 : 2 * j < q → Txt.item x ((5 + 2 * j : Nat) : Int) = Str.ofString "\"" := fun h => hit (2 * j) (List.mem_range.2 h)
    have i2 : 2 * j + 1 < q → Txt.item x (((5 + 2 * j : Nat) : Int) + 1) = Str.ofString "\"" := fun h => hit (2 * j + 1) (List.mem_range.2 h)
    k_steps
    · rename_i a1 a2 a3
      obtain rfl : j = q / 2 := by (first | lia | omega)
      exact hret _ _ (by k_asm) (by k_asm) hg hos
    · rename _ = true => a1
      rw [i2 (by (first | lia | omega))] at a1
      simp at a1
    · rename ¬ _ ≤ _ => a3
      refine add_str (fun t8 tk8 => ?_) (by rw [sizeLine_eq, qt_len, i1 (by (first | lia | omega))]; have h1 : (Str.ofString "\"").length = 1 := (by decide); (first | lia | omega))
      rw [i1 (by (first | lia | omega)), qt_snoc]
      k_steps
      rename Fr g' L' _ _ => F8
      rename News g' L' _ _ => N8
      have e9 : ((5 + 2 * j : Nat) : Int) + 1 + 1 = ((5 + 2 * (j + 1) : Nat) : Int) := by (first | lia | omega)
      refine' ⟨q - 2 * (j + 1), _, _, by (first | lia | omega), ?hJ, F8, N8⟩
      case hJ => exact ⟨rfl, hg, hos, j + 1, _, _, _, by (first | lia | omega), rfl, by (repeat (refine Eq.trans (if_neg ?_) ?_; focus decide)); exact p1, by (repeat (refine Eq.trans (if_neg ?_) ?_; focus decide)); exact (if_pos rfl).trans (by rw [e9]), if_pos rfl, by (repeat (refine Eq.trans (if_neg ?_) ?_; focus decide)); exact p4⟩
    · rename _ = false => a1
      rw [i1 (by (first | lia | omega))] at a1
      simp at a1
    · obtain rfl : j = q / 2 := by (first | lia | omega)
      exact hret _ _ (by k_asm) (by k_asm) hg hos
end
section
open PySem PySem.Spec PySem.Calls PySem.W PyProof.Rows
set_option maxRecDepth 100000
set_option maxHeartbeats 0
theorem rows_S19_1 : True := by
  k_with_none
  w_top off
  k_with "zv" => ((repeat (first | (refine Eq.trans (ite_off ?_) ?_; focus decide) | (refine Eq.trans (upd_off ?_) ?_; focus decide))); first | with_reducible assumption | exact if_pos rfl | exact upd_on)
  k_with "z8" => ((try (case A => assumption)); (case B => k_asm); (case F => k_asm); (case X => k_asm); (case N => first | k_asm | exact cb_drop (by k_asm) (by intro p hp; repeat (first | exact hp | apply List.Mem.tail))); (case T => k_asm); (case hk => first | exact rfl | assumption); (case hdp => ktr_room); (case hun => ktr_units); (try (case G => assumption)))
  k_with "k_mem" => (assumption)
  k_with "k_ne" => (first | exact ne_mem1 (by with_reducible assumption) (by with_reducible assumption) | exact ne_mem2 (by with_reducible assumption) (by with_reducible assumption))
  k_with "wpAt" => ((fail_if_success ks_step "execs cons"); dsimp only; ks_step "execs cons"; refine ks_wpAt_execs_cons ?_)
  k_with "wpAt" => (ks_step "eval Call"; k_dflt (refine ks_wpAt_MethodCall ?_))
  k_with "k_ne" => (first | exact ne_mem1 (by with_reducible assumption) (by with_reducible assumption) | exact ne_mem1 (And.right (by with_reducible assumption)) (by with_reducible assumption) | exact ne_mem1 (And.right (And.right (by with_reducible assumption))) (by with_reducible assumption) | exact ne_mem1 (And.right (And.right (And.right (by with_reducible assumption)))) (by with_reducible assumption) | exact ne_mem1 (And.right (And.right (And.right (And.right (by with_reducible assumption))))) (by with_reducible assumption) | exact ne_mem1 (And.right (And.right (And.right (And.right (And.right (by with_reducible assumption)))))) (by with_reducible assumption) | exact ne_mem1 (And.right (And.right (And.right (And.right (And.right (And.right (by with_reducible assumption))))))) (by with_reducible assumption))
  k_with "k_mem" => (first | with_reducible assumption | with_reducible exact List.Mem.head _ | with_reducible exact List.Mem.tail _ (by assumption) | with_reducible exact List.Mem.tail _ (List.Mem.tail _ (by assumption)) | with_reducible exact List.Mem.tail _ (List.Mem.tail _ (List.Mem.tail _ (by assumption))))
  k_with "call ref" => (k_here; k_dflt ((with_reducible show wpAny _ _ (call (Value.ref 214) _ _) _ _ _); (apply parse_all; walk_at "z8"; (· assumption); k_whole; intros)))
  k_with "binaryOp Mult str int" => (refine SB.mul (mul_okq (by assumption)) ?_; intros; rw [mul_qt])
  k_with "eval Name" => (k_here; k_dflt (first | (refine nameX_K (by k_asm) (by k_asm) (by k_asm) (by k_is) ?_ (by rfl) (by rfl); k_whole) | (refine nameX_B (by k_asm) (by k_asm) (by k_asm) (by k_is) (by boot_fast) (by decide) ?_ (by rfl) (by rfl); k_whole)))
  k_with "eval Name" => ((first | ((with_reducible show wpAny _ _ (eval (Expr.Name _ _) (envOf _ _ _ _ _)) _ _ _); refine ld (by assumption) (by walk_at "zv") ?_) | ((with_reducible show wpAny _ _ (eval (Expr.Name _ _) (envOfC _ _ _ _ _)) _ _ _); refine ldC (by assumption) (by walk_at "zv") ?_)); k_whole)
  k_with "exec For" => (refine For_loop ?_ (by intro _; with_unfolding_all rfl))
  k_with "exec For Name Call cons nil" => (refine For_loop ?_ (by intro _; with_unfolding_all rfl))
  k_with "exec For Name Name cons nil" => (refine For_loop ?_ (by intro _; with_unfolding_all rfl))
  k_with "exec For Name Attribute cons nil" => (refine For_loop ?_ (by intro _; with_unfolding_all rfl))
  k_with "execs cons" => (first | (k_here; k_gentoks) | ((try (rename Flow → Shared → Prop => qq; clear qq)); (try (rename Value → Shared → Prop => qq; clear qq)); refine wpAny_execs_cons ?_; (try dsimp only); k_fold))
  trivial
theorem read : ∀ {w : World} {loose : List Str} {mean : ExcName → Option Value} {mg mb : Str → Option Value} {dp un : Nat} {gd : Option (List Code)} {cn : Str} {cs : Scope} {a : Addr} {ccd : Value} {cl : List (Str × Addr)} {outer : List Env} {A₀ : Around} {base h₀ : Heap} {L : Addr} {m : Str → Option Value} {s : Shared} {Q E : Value → Shared → Prop} {news : List (Addr × Obj)} {r tm : Nat} {kr kt : Tok}
  (B : Below A₀ base outer h₀) (F : Fr h₀ L s.heap m) (X : (fr.heap_1 w.params).In h₀) (N : News h₀ L s.heap news) (T : Top topProg loose mean mg mb h₀) (hk : cs.kind = .function) (hdp : dp + 24 < recursionLimit) (hun : un + 320 < cLine) (hr : r ≤ 4) (htm : tm ≤ 2) (hret : ∀ k₁ (s₁ : Shared), Fr h₀ L s₁.heap m → News h₀ L s₁.heap news → s₁.gens = s.gens → s₁.os = s.os → Q (.str (qt (r / 2 ^ tm)) k₁) s₁),
  wpAny (model PySem.Challenge.rw_wu0100_01.row.prog w) (ktrTop dp un gd cn cs L a ccd cl outer) (call (.ref 320) [.int (r : Int) kr, .int (tm : Int) kt]) Q E s := by
  k_fill
  intro w loose mean mg mb dp un gd cn cs a ccd cl outer A₀ base h₀ L m s Q E news r tm kr kt B F X N T hk hdp hun hr htm hret
  refine wpAny_call ?_
  k_dflt (refine' code_def ?k1 ?k2 ?k3 ?k4 ?k5 ?kA ?kF ?kK ?k6 ?k7 ?k8 ?k9 ?kB ?_ ?c2 ?c3 ?c4 ?c5; (case kA => exact rfl); (case kF => exact rfl); (case kK => first | exact rfl | assumption); (case k1 => k_asm); (case k2 => k_asm); (case k3 => k_asm); (case k4 => k_asm); (case k5 => k_asm); (case k6 => k_is); (case k7 => k_is); (case k8 => ktr_room); (case k9 => exact BindsTo.of_eq rfl); (case c5 => decide); (case kB => exact locs rfl); (case c2 => exact rfl); (case c3 => exact rfl); (case c4 => exact rfl); k_whole; intro g' L' h' FG' F' N' B' X' T'; (try dsimp only); (try k_lift B'); (try k_fold))
  obtain ⟨M0', ⟨f1, f2⟩, F0⟩ := fr_gen (P := fun M => M (Str.ofString "run") = some (.int (r : Int) kr) ∧ M (Str.ofString "times") = some (.int (tm : Int) kt)) F' ⟨rfl, rfl⟩
  clear F'
  k_steps
  refine' loop_range (L := L') (n := tm) (I := fun j rest m₁ g o => rest = news ∧ (∃ kk, m₁ (Str.ofString "name") = some (.str (qt (r / 2 ^ j)) kk)) ∧ g = s.gens ∧ o = s.os) ?hr ?hn ?hsm rfl rfl rfl rfl ?hF ?hN ?h0 ?hb ?hQ
  case hr => assumption
  case hn => exact size_up rfl
  case hsm => exact small_up (k := tm) rfl (by omega)
  case hF => k_asm
  case hN => k_asm
  case h0 => exact ⟨rfl, ⟨_, by rw [Nat.pow_zero, Nat.div_one]; exact if_pos rfl⟩, rfl, rfl⟩
  · intro it i rest m₁ s₁ tk o' E' hit hi hc hI1 hne F7 N7
    try k_fold
    obtain ⟨hrest, ⟨kk, p1⟩, hg, hos⟩ := hI1
    subst hrest
    have hq4 : r / 2 ^ i ≤ 4 := Nat.le_trans (Nat.div_le_self _ _) hr
    k_steps
    refine add_str (fun t8 tk8 => ?_) (by rw [sizeLine_eq, qt_len]; have h1 : (Str.ofString "257 \"").length = 5 := (by decide); omega)
    k_steps
    rename News _ _ _ _ => N9
    rename Fr _ _ _ _ => F9
    have e : qt (r / 2 ^ i / 2) = qt (r / 2 ^ (i + 1)) := by rw [Nat.pow_succ, ← Nat.div_div_eq_div_mul]
    exact ⟨_, _, .head _, ⟨dropL_head hne, ⟨_, (if_pos rfl).trans (congrArg (fun z => some (Value.str z _)) e)⟩, by simp only [*], by simp only [*]⟩, F9, N9⟩
  · intro rest m₁ s₁ hI1 F7 N7
    try k_fold
    obtain ⟨hrest, ⟨kk, p1⟩, hg, hos⟩ := hI1
    subst hrest
    try dsimp only
    k_steps
    exact hret _ _ (by k_asm) (by k_asm) hg hos
end
section
open PySem PySem.Spec PySem.Calls PySem.W PyProof.Rows
set_option maxRecDepth 100000
set_option maxHeartbeats 0
noncomputable def ilS (ts : Nat) (cnt : List Nat) (j : Nat) : Nat := ((List.range j).map fun k => (ts + k) / ts * cnt.getD (ts + k) 0).sum
theorem ilS_succ (ts : Nat) (cnt : List Nat) (j : Nat) : ilS ts cnt (j + 1) = ilS ts cnt j + (ts + j) / ts * cnt.getD (ts + j) 0 := by
  unfold ilS
  rw [List.range_succ, List.map_append, List.sum_append]
  simp
noncomputable def indW (ts : Nat) (st : WSt) : Nat := st.b + ts * (ilS ts st.cnt (st.cnt.length - ts) + st.nt)
theorem size_from {a b : Nat} : Builtin.Range.rangeSize (a : Int) (b : Int) 1 = ((b - a : Nat) : Int) := by
  unfold Builtin.Range.rangeSize
  simp
  (first | lia | omega)
theorem small_from {a b : Nat} (h : b ≤ 1000) (ha : a ≤ 1000) : Builtin.Range.small (a : Int) (b : Int) 1 = true := by
  unfold Builtin.Range.small
  rw [size_from]
  simp [Builtin.Range.rangeFitsLong]
  (first | lia | omega)
section
variable {w : World} {A : Around} {E : Value → Shared → Prop} {s : Shared} {h₀ : Heap} {L : Addr} {m : Str → Option Value} {news : List (Addr × Obj)}
theorem get_TK {value slice : Expr} {T : Addr} {ws : Array Value} {k : Nat} {u : Tok} {v : Value} {Q : Value → Shared → Prop} (N : News h₀ L s.heap news) (hm : (T, tupOf ws) ∈ news) (hx : ws[k]? = some v) (hz : ws.size ≤ 1000) (h : Q v s)
    (hs : subscripted slice false (.ref T) (.int (k : Int) u) = operate [.ref T, .int (k : Int) u] (getItem (.ref T) (.int (k : Int) u)) := by with_unfolding_all rfl) : wpAny (model PG w) A (subscriptTail value slice (.ref T) (.int (k : Int) u)) Q E s := by
  have hlt : k < ws.size := (Array.getElem?_eq_some_iff.mp hx).1
  refine item_tupleT (l := ws.toList) (j := k) ⟨_, (N _ hm).1, rfl, _, rfl⟩ (by (first | lia | omega)) (by (first | lia | omega)) ?_ (by rw [Array.getElem?_toList]; exact hx) h hs
  unfold seqIndex?
  rw [Array.length_toList]
  simp
  (first | lia | omega)
end
theorem rows_S22_1 : True := by
  k_with_none
  w_top off
  k_with "zv" => ((repeat (first | (refine Eq.trans (ite_off ?_) ?_; focus decide) | (refine Eq.trans (upd_off ?_) ?_; focus decide))); first | with_reducible assumption | exact if_pos rfl | exact upd_on)
  k_with "k_mem" => (assumption)
  k_with "k_ne" => (first | exact ne_mem1 (by with_reducible assumption) (by with_reducible assumption) | exact ne_mem2 (by with_reducible assumption) (by with_reducible assumption))
  k_with "wpAt" => ((fail_if_success ks_step "execs cons"); dsimp only; ks_step "execs cons"; refine ks_wpAt_execs_cons ?_)
  k_with "wpAt" => (ks_step "eval Call"; k_dflt (refine ks_wpAt_MethodCall ?_))
  k_with "k_ne" => (first | exact ne_mem1 (by with_reducible assumption) (by with_reducible assumption) | exact ne_mem1 (And.right (by with_reducible assumption)) (by with_reducible assumption) | exact ne_mem1 (And.right (And.right (by with_reducible assumption))) (by with_reducible assumption) | exact ne_mem1 (And.right (And.right (And.right (by with_reducible assumption)))) (by with_reducible assumption) | exact ne_mem1 (And.right (And.right (And.right (And.right (by with_reducible assumption))))) (by with_reducible assumption) | exact ne_mem1 (And.right (And.right (And.right (And.right (And.right (by with_reducible assumption)))))) (by with_reducible assumption) | exact ne_mem1 (And.right (And.right (And.right (And.right (And.right (And.right (by with_reducible assumption))))))) (by with_reducible assumption))
  k_with "k_mem" => (first | with_reducible assumption | with_reducible exact List.Mem.head _ | with_reducible exact List.Mem.tail _ (by assumption) | with_reducible exact List.Mem.tail _ (List.Mem.tail _ (by assumption)) | with_reducible exact List.Mem.tail _ (List.Mem.tail _ (List.Mem.tail _ (by assumption))))
  k_with "call builtin:len" => (k_here; (with_reducible show wpAny _ _ (call (Value.builtin _) [Value.ref _]) _ _ _); k_dflt (refine len_tupK (by k_asm) (by k_mem) (by assumption) (by (first | lia | omega)) ?_; k_whole))
  k_with "call builtin:max" => (k_here; (with_reducible show wpAny _ _ (call (Value.builtin _) [Value.int _ _, Value.int _ _]) _ _ _); k_dflt (refine max_K (by exact rfl) (by k_asm) (by k_asm) ?_; k_whole; intros))
  k_with "subscriptTail" => (k_here; (with_reducible show wpAny _ _ (subscriptTail _ _ (Value.ref _) (Value.int _ _)) _ _ _); k_dflt (refine get_TK (by k_asm) (by k_mem) (by assumption) (by (first | lia | omega)) ?_ (by with_unfolding_all rfl); k_whole))
  k_with "eval Name" => (k_here; k_dflt (first | (refine nameX_K (by k_asm) (by k_asm) (by k_asm) (by k_is) ?_ (by rfl) (by rfl); k_whole) | (refine nameX_B (by k_asm) (by k_asm) (by k_asm) (by k_is) (by boot_fast) (by decide) ?_ (by rfl) (by rfl); k_whole)))
  k_with "eval Name" => ((first | ((with_reducible show wpAny _ _ (eval (Expr.Name _ _) (envOf _ _ _ _ _)) _ _ _); refine ld (by assumption) (by walk_at "zv") ?_) | ((with_reducible show wpAny _ _ (eval (Expr.Name _ _) (envOfC _ _ _ _ _)) _ _ _); refine ldC (by assumption) (by walk_at "zv") ?_)); k_whole)
  k_with "exec For" => (refine For_loop ?_ (by intro _; with_unfolding_all rfl))
  k_with "exec For Name Call cons nil" => (refine For_loop ?_ (by intro _; with_unfolding_all rfl))
  k_with "exec For Name Name cons nil" => (refine For_loop ?_ (by intro _; with_unfolding_all rfl))
  k_with "exec For Name Attribute cons nil" => (refine For_loop ?_ (by intro _; with_unfolding_all rfl))
  k_with "execs cons" => (first | (k_here; k_gentoks) | ((try (rename Flow → Shared → Prop => qq; clear qq)); (try (rename Value → Shared → Prop => qq; clear qq)); refine wpAny_execs_cons ?_; (try dsimp only); k_fold))
  k_with "subscriptTail Name Name ref int" => (k_extra "subscriptTail")
  trivial
theorem indent : ∀ {w : World} {loose : List Str} {mean : ExcName → Option Value} {mg mb : Str → Option Value} {dp un : Nat} {gd : Option (List Code)} {cn : Str} {cs : Scope} {a : Addr} {ccd : Value} {cl : List (Str × Addr)} {outer : List Env} {A₀ : Around} {base h₀ : Heap} {L : Addr} {m : Str → Option Value} {s : Shared} {Q E : Value → Shared → Prop} {news : List (Addr × Obj)} {pa : Addr} {st : WSt} {ts : Nat} {kt : Tok}
  (B : Below A₀ base outer h₀) (F : Fr h₀ L s.heap m) (X : (fr.heap_1 w.params).In h₀) (N : News h₀ L s.heap news) (T : Top topProg loose mean mg mb h₀) (hk : cs.kind = .function) (hdp : dp + 12 < recursionLimit) (hun : un + 160 < cLine) (W : WsL news pa st) (h1 : 1 ≤ ts) (h2 : ts ≤ 30) (hret : ∀ k₁ (s₁ : Shared), Fr h₀ L s₁.heap m → News h₀ L s₁.heap news → s₁.gens = s.gens → s₁.os = s.os → Q (.int (indW ts st : Int) k₁) s₁),
  wpAny (model PySem.Challenge.rw_wu0100_01.row.prog w) (ktrTop dp un gd cn cs L a ccd cl outer) (call (.ref 245) [.ref pa, .int (ts : Int) kt]) Q E s := by
  k_fill
  intro w loose mean mg mb dp un gd cn cs a ccd cl outer A₀ base h₀ L m s Q E news pa st ts kt B F X N T hk hdp hun W h1 h2 hret
  refine wpAny_call ?_
  k_dflt (refine' code_def ?k1 ?k2 ?k3 ?k4 ?k5 ?kA ?kF ?kK ?k6 ?k7 ?k8 ?k9 ?kB ?_ ?c2 ?c3 ?c4 ?c5; (case kA => exact rfl); (case kF => exact rfl); (case kK => first | exact rfl | assumption); (case k1 => k_asm); (case k2 => k_asm); (case k3 => k_asm); (case k4 => k_asm); (case k5 => k_asm); (case k6 => k_is); (case k7 => k_is); (case k8 => ktr_room); (case k9 => exact BindsTo.of_eq rfl); (case c5 => decide); (case kB => exact locs rfl); (case c2 => exact rfl); (case c3 => exact rfl); (case c4 => exact rfl); k_whole; intro g' L' h' FG' F' N' B' X' T'; (try dsimp only); (try k_lift B'); (try k_fold))
  (refine WsL.elimB W ?_; intro fd T1 T2 ws x a1 a2 a3 a4 a5 t1 t2 t3 t4 t5 kx kn knt kb m1 m2 m3 m4  hws b1 b2 b3 b4 b5)
  have hsz : ws.size = st.cnt.length := hws.1
  obtain ⟨M0', ⟨f1, f2⟩, F0⟩ := fr_gen (P := fun M => M (Str.ofString "self") = some (.ref pa) ∧ M (Str.ofString "tabsize") = some (.int (ts : Int) kt)) F' ⟨rfl, rfl⟩
  clear F'
  k_steps
  refine' loop_range (L := L') (n := st.cnt.length - ts) (I := fun j rest m₁ g o => rest = news ∧ (∃ k, m₁ (Str.ofString "il") = some (.int (ilS ts st.cnt j : Int) k)) ∧ m₁ (Str.ofString "self") = some (.ref pa) ∧ m₁ (Str.ofString "tabsize") = some (.int (ts : Int) kt) ∧ m₁ (Str.ofString "count") = some (.ref T2) ∧ m₁ (Str.ofString "trailing") = some (.int (st.b : Int) kb) ∧ g = s.gens ∧ o = s.os) ?hr ?hn ?hsm rfl rfl rfl rfl ?hF ?hN ?h0 ?hb ?hQ
  case hr => assumption
  case hn => exact size_from
  case hsm => exact small_from (by (first | lia | omega)) (by (first | lia | omega))
  case hF => k_asm
  case hN => k_asm
  case h0 =>
    refine ⟨rfl, ⟨_, if_pos rfl⟩, ?_, ?_, ?_, ?_, rfl, rfl⟩
    all_goals ((repeat (refine Eq.trans (if_neg ?_) ?_; focus decide)); first | exact if_pos rfl | assumption)
  · intro it j rest m₁ s₁ tk o' E' hit hj hc hI1 hne F7 N7
    try k_fold
    obtain ⟨hrest, ⟨k1, p1⟩, p2, p3, p4, p5, hg, hos⟩ := hI1
    subst hrest
    have hj' : ts + j < st.cnt.length := by (first | lia | omega)
    obtain ⟨tk5, e5⟩ := hws.at hj'
    have hc20 : ((st.cnt[ts + j] : Nat) : Int) ≤ 20 := by have := b5 _ (List.getElem_mem hj'); (first | lia | omega)
    have hc00 : (0 : Int) ≤ ((st.cnt[ts + j] : Nat) : Int) := by (first | lia | omega)
    rw [show ((ts : Int) + (j : Int) * 1) = ((ts + j : Nat) : Int) by (first | lia | omega)] at F7
    k_steps
    rename News _ _ _ _ => N9
    rename Fr _ _ _ _ => F9
    have e : (ilS ts st.cnt j : Int) + ((ts + j : Nat) : Int).fdiv (ts : Int) * (st.cnt[ts + j] : Int) = (ilS ts st.cnt (j + 1) : Int) := by
      rw [ilS_succ, Int.fdiv_eq_ediv_of_nonneg _ (by (first | lia | omega))]
      have : st.cnt.getD (ts + j) 0 = st.cnt[ts + j] := by simp [List.getD, hj']
      rw [this]
      norm_cast
    refine ⟨_, _, .head _, ⟨dropL_head hne, ⟨_, (if_pos rfl).trans (congrArg (fun z => some (Value.int z _)) e)⟩, ?_, ?_, ?_, ?_, hg, hos⟩, F9, N9⟩
    all_goals ((repeat (refine Eq.trans (if_neg ?_) ?_; focus decide)); first | exact if_pos rfl | assumption)
  · intro rest m₁ s₁ hI1 F7 N7
    try k_fold
    obtain ⟨hrest, ⟨k1, p1⟩, p2, p3, p4, p5, hg, hos⟩ := hI1
    subst hrest
    try dsimp only
    k_steps
    have e : (st.b : Int) + (ts : Int) * ((ilS ts st.cnt (st.cnt.length - ts) : Int) + (st.nt : Int)) = (indW ts st : Int) := by
      unfold indW
      norm_cast
    rw [e]
    exact hret _ _ (by k_asm) (by k_asm) hg hos
end
section
open PySem PySem.Spec PySem.Calls PySem.W PyProof.Rows
set_option maxRecDepth 100000
set_option maxHeartbeats 0
theorem rows_S23_1 : True := by
  k_with_none
  w_top off
  k_with "zv" => ((repeat (first | (refine Eq.trans (ite_off ?_) ?_; focus decide) | (refine Eq.trans (upd_off ?_) ?_; focus decide))); first | with_reducible assumption | exact if_pos rfl | exact upd_on)
  k_with "k_mem" => (assumption)
  k_with "k_ne" => (first | exact ne_mem1 (by with_reducible assumption) (by with_reducible assumption) | exact ne_mem2 (by with_reducible assumption) (by with_reducible assumption))
  k_with "wpAt" => ((fail_if_success ks_step "execs cons"); dsimp only; ks_step "execs cons"; refine ks_wpAt_execs_cons ?_)
  k_with "wpAt" => (ks_step "eval Call"; k_dflt (refine ks_wpAt_MethodCall ?_))
  k_with "k_ne" => (first | exact ne_mem1 (by with_reducible assumption) (by with_reducible assumption) | exact ne_mem1 (And.right (by with_reducible assumption)) (by with_reducible assumption) | exact ne_mem1 (And.right (And.right (by with_reducible assumption))) (by with_reducible assumption) | exact ne_mem1 (And.right (And.right (And.right (by with_reducible assumption)))) (by with_reducible assumption) | exact ne_mem1 (And.right (And.right (And.right (And.right (by with_reducible assumption))))) (by with_reducible assumption) | exact ne_mem1 (And.right (And.right (And.right (And.right (And.right (by with_reducible assumption)))))) (by with_reducible assumption) | exact ne_mem1 (And.right (And.right (And.right (And.right (And.right (And.right (by with_reducible assumption))))))) (by with_reducible assumption))
  k_with "k_mem" => (first | with_reducible assumption | with_reducible exact List.Mem.head _ | with_reducible exact List.Mem.tail _ (by assumption) | with_reducible exact List.Mem.tail _ (List.Mem.tail _ (by assumption)) | with_reducible exact List.Mem.tail _ (List.Mem.tail _ (List.Mem.tail _ (by assumption))))
  k_with "compareOp Eq ref ref" => (k_here; k_dflt (refine norm_eq (by k_asm) (by k_mem) (by k_mem) (by assumption) (by k_mem) (by k_mem) (by assumption) (by ktr_units) ?_; k_whole))
  k_with "eval Name" => (k_here; k_dflt (first | (refine nameX_K (by k_asm) (by k_asm) (by k_asm) (by k_is) ?_ (by rfl) (by rfl); k_whole) | (refine nameX_B (by k_asm) (by k_asm) (by k_asm) (by k_is) (by boot_fast) (by decide) ?_ (by rfl) (by rfl); k_whole)))
  k_with "eval Name" => ((first | ((with_reducible show wpAny _ _ (eval (Expr.Name _ _) (envOf _ _ _ _ _)) _ _ _); refine ld (by assumption) (by walk_at "zv") ?_) | ((with_reducible show wpAny _ _ (eval (Expr.Name _ _) (envOfC _ _ _ _ _)) _ _ _); refine ldC (by assumption) (by walk_at "zv") ?_)); k_whole)
  k_with "exec For" => (refine For_loop ?_ (by intro _; with_unfolding_all rfl))
  k_with "exec For Name Call cons nil" => (refine For_loop ?_ (by intro _; with_unfolding_all rfl))
  k_with "exec For Name Name cons nil" => (refine For_loop ?_ (by intro _; with_unfolding_all rfl))
  k_with "exec For Name Attribute cons nil" => (refine For_loop ?_ (by intro _; with_unfolding_all rfl))
  k_with "execs cons" => (first | (k_here; k_gentoks) | ((try (rename Flow → Shared → Prop => qq; clear qq)); (try (rename Value → Shared → Prop => qq; clear qq)); refine wpAny_execs_cons ?_; (try dsimp only); k_fold))
  trivial
theorem equalW : ∀ {w : World} {loose : List Str} {mean : ExcName → Option Value} {mg mb : Str → Option Value} {dp un : Nat} {gd : Option (List Code)} {cn : Str} {cs : Scope} {a : Addr} {ccd : Value} {cl : List (Str × Addr)} {outer : List Env} {A₀ : Around} {base h₀ : Heap} {L : Addr} {m : Str → Option Value} {s : Shared} {Q E : Value → Shared → Prop} {news : List (Addr × Obj)} {pa pb : Addr} {st su : WSt}
  (B : Below A₀ base outer h₀) (F : Fr h₀ L s.heap m) (X : (fr.heap_1 w.params).In h₀) (N : News h₀ L s.heap news) (T : Top topProg loose mean mg mb h₀) (hk : cs.kind = .function) (hdp : dp + 12 < recursionLimit) (hun : un + 160 < cLine) (W : WsL news pa st) (W2 : WsL news pb su) (hret : ∀ (s₁ : Shared), Fr h₀ L s₁.heap m → News h₀ L s₁.heap news → s₁.gens = s.gens → s₁.os = s.os → Q (.bool (decide (st.cnt = su.cnt ∧ st.b = su.b))) s₁),
  wpAny (model PySem.Challenge.rw_wu0100_01.row.prog w) (ktrTop dp un gd cn cs L a ccd cl outer) (call (.ref 252) [.ref pa, .ref pb]) Q E s := by
  k_fill
  intro w loose mean mg mb dp un gd cn cs a ccd cl outer A₀ base h₀ L m s Q E news pa pb st su B F X N T hk hdp hun W W2 hret
  refine wpAny_call ?_
  k_dflt (refine' code_def ?k1 ?k2 ?k3 ?k4 ?k5 ?kA ?kF ?kK ?k6 ?k7 ?k8 ?k9 ?kB ?_ ?c2 ?c3 ?c4 ?c5; (case kA => exact rfl); (case kF => exact rfl); (case kK => first | exact rfl | assumption); (case k1 => k_asm); (case k2 => k_asm); (case k3 => k_asm); (case k4 => k_asm); (case k5 => k_asm); (case k6 => k_is); (case k7 => k_is); (case k8 => ktr_room); (case k9 => exact BindsTo.of_eq rfl); (case c5 => decide); (case kB => exact locs rfl); (case c2 => exact rfl); (case c3 => exact rfl); (case c4 => exact rfl); k_whole; intro g' L' h' FG' F' N' B' X' T'; (try dsimp only); (try k_lift B'); (try k_fold))
  (refine WsL.elim W ?_; intro fd T1 T2 ws x a1 a2 a3 a4 a5 t1 t2 t3 t4 t5 kx kn knt kb m1 m2 m3 m4  hws)
  (refine WsL.elim W2 ?_; intro fe U1 U2 wu y c1 c2 c3 c4 c5 r1 r2 r3 r4 r5 ky kn' knt' kb' n1 n2 n3 n4  hwu)
  obtain ⟨M0', ⟨f1, f2⟩, F0⟩ := fr_gen (P := fun M => M (Str.ofString "self") = some (.ref pa) ∧ M (Str.ofString "other") = some (.ref pb)) F' ⟨rfl, rfl⟩
  clear F'
  k_steps
  exact hret _ (by k_asm) (by k_asm) rfl rfl
end
section
open PySem PySem.Spec PySem.Calls PySem.W PyProof.Rows
set_option maxRecDepth 100000
set_option maxHeartbeats 0
noncomputable def topW (st su : WSt) : Nat := max (max (st.cnt.length - 1) st.b) (max (su.cnt.length - 1) su.b) + 1
theorem max_pred (n b : Nat) : max ((n : Int) - 1) (b : Int) = ((max (n - 1) b : Nat) : Int) := by (first | lia | omega)
theorem max_cast (a b : Nat) : max (a : Int) (b : Int) = ((max a b : Nat) : Int) := by (first | lia | omega)
theorem topW_int (st su : WSt) : max (max ((st.cnt.length : Int) - 1) (st.b : Int)) (max ((su.cnt.length : Int) - 1) (su.b : Int)) + 1 = (topW st su : Int) := by
  rw [max_pred, max_pred, max_cast]
  rfl
noncomputable def witL (P : Nat → Nat → Bool) (st su : WSt) (i : Nat) : List (Nat × Nat × Nat) := ((List.range i).filter fun k => P (indW (1 + k) st) (indW (1 + k) su)).map fun k => (1 + k, indW (1 + k) st, indW (1 + k) su)
theorem witL_yes {P : Nat → Nat → Bool} {st su : WSt} {i : Nat} (h : P (indW (1 + i) st) (indW (1 + i) su) = true) : witL P st su (i + 1) = witL P st su i ++ [(1 + i, indW (1 + i) st, indW (1 + i) su)] := by
  unfold witL
  rw [List.range_succ, List.filter_append, List.map_append]
  simp [h]
theorem witL_no {P : Nat → Nat → Bool} {st su : WSt} {i : Nat} (h : P (indW (1 + i) st) (indW (1 + i) su) = false) : witL P st su (i + 1) = witL P st su i := by
  unfold witL
  rw [List.range_succ, List.filter_append, List.map_append]
  simp [h]
theorem size_one {k : Nat} {a : Int} (e : a = (k : Int) + 1) : Builtin.Range.rangeSize 1 a 1 = (k : Int) := by
  subst e
  unfold Builtin.Range.rangeSize
  simp
  (first | lia | omega)
theorem small_one {k : Nat} {a : Int} (e : a = (k : Int) + 1) (hk : k ≤ 900) : Builtin.Range.small 1 a 1 = true := by
  unfold Builtin.Range.small
  rw [size_one e, e]
  simp [Builtin.Range.rangeFitsLong]
  (first | lia | omega)
theorem rows_S24_1 : True := by
  k_with_none
  w_top off
  k_with "zv" => ((repeat (first | (refine Eq.trans (ite_off ?_) ?_; focus decide) | (refine Eq.trans (upd_off ?_) ?_; focus decide))); first | with_reducible assumption | exact if_pos rfl | exact upd_on)
  k_with "z8" => ((try (case A => assumption)); (case B => k_asm); (case F => k_asm); (case X => k_asm); (case N => first | k_asm | exact cb_drop (by k_asm) (by intro p hp; repeat (first | exact hp | apply List.Mem.tail))); (case T => k_asm); (case hk => first | exact rfl | assumption); (case hdp => ktr_room); (case hun => ktr_units); (try (case G => assumption)))
  k_with "zw" => (first | assumption | exact WsL.mono (by assumption) (by intro p hp; repeat (first | exact hp | apply List.Mem.tail)))
  k_with "zo" => (first | (first | lia | omega) | (simp; (first | lia | omega)))
  k_with "k_mem" => (assumption)
  k_with "k_ne" => (first | exact ne_mem1 (by with_reducible assumption) (by with_reducible assumption) | exact ne_mem2 (by with_reducible assumption) (by with_reducible assumption))
  k_with "wpAt" => ((fail_if_success ks_step "execs cons"); dsimp only; ks_step "execs cons"; refine ks_wpAt_execs_cons ?_)
  k_with "wpAt" => (ks_step "eval Call"; k_dflt (refine ks_wpAt_MethodCall ?_))
  k_with "k_ne" => (first | exact ne_mem1 (by with_reducible assumption) (by with_reducible assumption) | exact ne_mem1 (And.right (by with_reducible assumption)) (by with_reducible assumption) | exact ne_mem1 (And.right (And.right (by with_reducible assumption))) (by with_reducible assumption) | exact ne_mem1 (And.right (And.right (And.right (by with_reducible assumption)))) (by with_reducible assumption) | exact ne_mem1 (And.right (And.right (And.right (And.right (by with_reducible assumption))))) (by with_reducible assumption) | exact ne_mem1 (And.right (And.right (And.right (And.right (And.right (by with_reducible assumption)))))) (by with_reducible assumption) | exact ne_mem1 (And.right (And.right (And.right (And.right (And.right (And.right (by with_reducible assumption))))))) (by with_reducible assumption))
  k_with "k_mem" => (first | with_reducible assumption | with_reducible exact List.Mem.head _ | with_reducible exact List.Mem.tail _ (by assumption) | with_reducible exact List.Mem.tail _ (List.Mem.tail _ (by assumption)) | with_reducible exact List.Mem.tail _ (List.Mem.tail _ (List.Mem.tail _ (by assumption))))
  k_with "call builtin:list.append" => (k_here; k_dflt (refine app_K (by k_asm) (by k_asm) (by k_updF) (by (walk_at "zo")) ?_; k_whole; intro h' n' F' N'; (try dsimp only at N'); revert h' n' F' N'; intros))
  k_with "call ref" => (k_here; k_dflt ((with_reducible show wpAny _ _ (call (Value.ref 238) _ _) _ _ _); (apply longest; walk_at "z8"; (· walk_at "zw"); k_whole; intros)))
  k_with "call ref" => (k_here; k_dflt ((with_reducible show wpAny _ _ (call (Value.ref 245) _ _) _ _ _); (apply indent; walk_at "z8"; (· walk_at "zw"); (· (first | lia | omega)); (· (first | lia | omega)); k_whole; intros)))
  k_with "call builtin:max" => (k_here; (with_reducible show wpAny _ _ (call (Value.builtin _) [Value.int _ _, Value.int _ _]) _ _ _); k_dflt (refine max_K (by exact rfl) (by k_asm) (by k_asm) ?_; k_whole; intros))
  k_with "eval Name" => (k_here; k_dflt (first | (refine nameX_K (by k_asm) (by k_asm) (by k_asm) (by k_is) ?_ (by rfl) (by rfl); k_whole) | (refine nameX_B (by k_asm) (by k_asm) (by k_asm) (by k_is) (by boot_fast) (by decide) ?_ (by rfl) (by rfl); k_whole)))
  k_with "eval Name" => ((first | ((with_reducible show wpAny _ _ (eval (Expr.Name _ _) (envOf _ _ _ _ _)) _ _ _); refine ld (by assumption) (by walk_at "zv") ?_) | ((with_reducible show wpAny _ _ (eval (Expr.Name _ _) (envOfC _ _ _ _ _)) _ _ _); refine ldC (by assumption) (by walk_at "zv") ?_)); k_whole)
  k_with "exec For" => (refine For_loop ?_ (by intro _; with_unfolding_all rfl))
  k_with "exec For Name Call cons nil" => (refine For_loop ?_ (by intro _; with_unfolding_all rfl))
  k_with "exec For Name Name cons nil" => (refine For_loop ?_ (by intro _; with_unfolding_all rfl))
  k_with "exec For Name Attribute cons nil" => (refine For_loop ?_ (by intro _; with_unfolding_all rfl))
  k_with "execs cons" => (first | (k_here; k_gentoks) | ((try (rename Flow → Shared → Prop => qq; clear qq)); (try (rename Value → Shared → Prop => qq; clear qq)); refine wpAny_execs_cons ?_; (try dsimp only); k_fold))
  k_with "execs cons Assign cons" => (k_extra "execs cons")
  trivial
noncomputable def InvL (P : Nat → Nat → Bool) (st su : WSt) (al : Nat) (news : List (Addr × Obj)) (pa pb : Nat) (gs : Array GenState) (os : OsState) (i : Nat) (rest : List (Addr × Obj)) (m : Str → Option Value) (g : Array GenState) (o : OsState) : Prop :=
  ∀ C : Prop, (∀ (vs : Array Value) (c : Nat) (R : List (Addr × Obj)), rest = (al, listOf vs c) :: R → vs.size ≤ i → (∀ y ∈ R, @Ne Nat y.1 al) → (∀ y ∈ news, y ∈ R) → TripsL R vs (witL P st su i) → m (Str.ofString "a") = some (.ref al) → m (Str.ofString "self") = some (.ref pa) → m (Str.ofString "other") = some (.ref pb) → g = gs → o = os → C) → C
theorem not_less : ∀ {w : World} {loose : List Str} {mean : ExcName → Option Value} {mg mb : Str → Option Value} {dp un : Nat} {gd : Option (List Code)} {cn : Str} {cs : Scope} {a : Addr} {ccd : Value} {cl : List (Str × Addr)} {outer : List Env} {A₀ : Around} {base h₀ : Heap} {L : Addr} {m : Str → Option Value} {s : Shared} {Q E : Value → Shared → Prop} {news : List (Addr × Obj)} {pa pb : Addr} {st su : WSt}
  (B : Below A₀ base outer h₀) (F : Fr h₀ L s.heap m) (X : (fr.heap_1 w.params).In h₀) (N : News h₀ L s.heap news) (T : Top topProg loose mean mg mb h₀) (hk : cs.kind = .function) (hdp : dp + 26 < recursionLimit) (hun : un + 340 < cLine) (W : WsL news pa st) (W2 : WsL news pb su) (hret : ∀ (al : Nat) vs c (s₁ : Shared) news₁, Fr h₀ L s₁.heap m → News h₀ L s₁.heap news₁ → (∀ y ∈ news, y ∈ news₁) → (al, listOf vs c) ∈ news₁ → TripsL news₁ vs (witL (fun a b => decide (b ≤ a)) st su (topW st su)) → s₁.gens = s.gens → s₁.os = s.os → Q (.ref al) s₁),
  wpAny (model PySem.Challenge.rw_wu0100_01.row.prog w) (ktrTop dp un gd cn cs L a ccd cl outer) (call (.ref 273) [.ref pa, .ref pb]) Q E s := by
  k_fill
  intro w loose mean mg mb dp un gd cn cs a ccd cl outer A₀ base h₀ L m s Q E news pa pb st su B F X N T hk hdp hun W W2 hret
  refine wpAny_call ?_
  k_dflt (refine' code_def ?k1 ?k2 ?k3 ?k4 ?k5 ?kA ?kF ?kK ?k6 ?k7 ?k8 ?k9 ?kB ?_ ?c2 ?c3 ?c4 ?c5; (case kA => exact rfl); (case kF => exact rfl); (case kK => first | exact rfl | assumption); (case k1 => k_asm); (case k2 => k_asm); (case k3 => k_asm); (case k4 => k_asm); (case k5 => k_asm); (case k6 => k_is); (case k7 => k_is); (case k8 => ktr_room); (case k9 => exact BindsTo.of_eq rfl); (case c5 => decide); (case kB => exact locs rfl); (case c2 => exact rfl); (case c3 => exact rfl); (case c4 => exact rfl); k_whole; intro g' L' h' FG' F' N' B' X' T'; (try dsimp only); (try k_lift B'); (try k_fold))
  (refine WsL.elim W ?_; intro fd T1 T2 ws x a1 a2 a3 a4 a5 t1 t2 t3 t4 t5 kx kn knt kb m1 m2 m3 m4  hws)
  (refine WsL.elim W2 ?_; intro fe U1 U2 wu y c1 c2 c3 c4 c5 r1 r2 r3 r4 r5 ky kn' knt' kb' n1 n2 n3 n4  hwu)
  have w1 := W.hl
  have w2 := W.hb
  have w3 := W2.hl
  have w4 := W2.hb
  have htop : topW st su ≤ 21 := by unfold topW; (first | lia | omega)
  have hti := topW_int st su
  obtain ⟨M0', ⟨f1, f2⟩, F0⟩ := fr_gen (P := fun M => M (Str.ofString "self") = some (.ref pa) ∧ M (Str.ofString "other") = some (.ref pb)) F' ⟨rfl, rfl⟩
  clear F'
  k_steps
  rename_i al h2 hal h1 F5 N5 h0' tk0 t₁ u₁ v₁ A3 A2 A1 A0
  refine' loop_range (L := L') (n := topW st su) (I := InvL (fun a b => decide (b ≤ a)) st su al news pa pb s.gens s.os) A3 (size_one (by (first | lia | omega))) (small_one (k := topW st su) (by (first | lia | omega)) (by (first | lia | omega))) rfl rfl rfl rfl A2 A1 ?h0 ?hb ?hQ
  case h0 =>
    refine fun _ K => K #[] 0 news rfl (Nat.zero_le _) (fun y hy => Nat.ne_of_lt (hal y hy)) (fun y hy => hy) .nil ?_ ?_ ?_ (by clear K; simp only [*]) (by clear K; simp only [*])
    all_goals ((repeat (refine Eq.trans (if_neg ?_) ?_; focus decide)); first | exact if_pos rfl | assumption)
  · clear F5 N5 A3 A2 A1 A0
    intro it i rest m₁ s₁ tk o' E' hit hi hc hI1 hne F7 N7
    try k_fold
    refine hI1 _ ?_
    intro vs c R hrest hvz hR hsub hT p1 p2 p3 hg hos
    subst hrest
    clear hI1
    rw [show ((1 : Int) + (i : Int) * 1) = ((1 + i : Nat) : Int) by (first | lia | omega)] at F7
    have WR : WsL ((it, o') :: (al, listOf vs c) :: R) pa st := W.mono fun y hy => .tail _ (.tail _ (hsub y hy))
    have WR2 : WsL ((it, o') :: (al, listOf vs c) :: R) pb su := W2.mono fun y hy => .tail _ (.tail _ (hsub y hy))
    have q1 : @Ne Nat al it := hne _ (.head _)
    have hof : OwnOff R [al] := fun p hp b hb => by cases List.mem_singleton.mp hb; exact hR p hp
    have m1' := hsub _ m1
    have m2' := hsub _ m2
    have n1' := hsub _ n1
    have n2' := hsub _ n2
    clear W W2 hit m1 m2 m3 m4 n1 n2 n3 n4
    k_steps
    · rename _ ∧ _ ∧ AllLt _ _ => lT
      rename News _ _ _ _ => N9
      rename Fr _ _ _ _ => F9
      have g1 := lT.1
      have g2 := lT.2.1
      have hy : witL (fun a b => decide (b ≤ a)) st su (i + 1) = witL (fun a b => decide (b ≤ a)) st su i ++ [(1 + i, indW (1 + i) st, indW (1 + i) su)] := witL_yes (by simp only [decide_eq_true_eq, ne_eq]; (first | lia | omega))
      refine ⟨(it, o') :: (al, _) :: (_, _) :: R, _, .head _, fun _ K => K _ _ _ (dropL_head (List.forall_mem_cons.mpr ⟨q1, List.forall_mem_cons.mpr ⟨Nat.ne_of_gt g1, fun y hy => hne y (.tail _ hy)⟩⟩)) (by rw [Array.size_push]; exact Nat.succ_le_succ hvz) (List.forall_mem_cons.mpr ⟨Nat.ne_of_gt g2, hR⟩) (fun y hy => .tail _ (hsub y hy)) (by rw [hy]; exact (hT.mono fun y hy => .tail _ hy).push (.head _)) ?_ ?_ ?_ (by clear K; simp only [*]) (by clear K; simp only [*]), F9, cb_drop N9 (mem_mid' (pre := [_, _]))⟩
      all_goals ((repeat (refine Eq.trans (if_neg ?_) ?_; focus decide)); assumption)
    · rename News _ _ _ _ => N9
      rename Fr _ _ _ _ => F9
      have hy : witL (fun a b => decide (b ≤ a)) st su (i + 1) = witL (fun a b => decide (b ≤ a)) st su i := witL_no (by simp only [decide_eq_false_iff_not, ne_eq]; (first | lia | omega))
      refine ⟨(it, o') :: (al, _) :: R, _, .head _, fun _ K => K _ _ _ (dropL_head hne) (Nat.le_succ_of_le hvz) hR hsub (by rw [hy]; exact hT) ?_ ?_ ?_ (by clear K; simp only [*]) (by clear K; simp only [*]), F9, N9⟩
      all_goals ((repeat (refine Eq.trans (if_neg ?_) ?_; focus decide)); assumption)
  · intro rest m₁ s₁ hI1 F7 N7
    try k_fold
    refine hI1 _ ?_
    intro vs c R hrest hvz hR hsub hT p1 p2 p3 hg hos
    subst hrest
    clear hI1
    try dsimp only
    k_steps
    exact hret _ _ _ _ _ (by k_asm) (by k_asm) (fun y hy => .tail _ (hsub y hy)) (.head _) (hT.mono fun y hy => .tail _ hy) hg hos

theorem not_eq : ∀ {w : World} {loose : List Str} {mean : ExcName → Option Value} {mg mb : Str → Option Value} {dp un : Nat} {gd : Option (List Code)} {cn : Str} {cs : Scope} {a : Addr} {ccd : Value} {cl : List (Str × Addr)} {outer : List Env} {A₀ : Around} {base h₀ : Heap} {L : Addr} {m : Str → Option Value} {s : Shared} {Q E : Value → Shared → Prop} {news : List (Addr × Obj)} {pa pb : Addr} {st su : WSt}
  (B : Below A₀ base outer h₀) (F : Fr h₀ L s.heap m) (X : (fr.heap_1 w.params).In h₀) (N : News h₀ L s.heap news) (T : Top topProg loose mean mg mb h₀) (hk : cs.kind = .function) (hdp : dp + 26 < recursionLimit) (hun : un + 340 < cLine) (W : WsL news pa st) (W2 : WsL news pb su) (hret : ∀ (al : Nat) vs c (s₁ : Shared) news₁, Fr h₀ L s₁.heap m → News h₀ L s₁.heap news₁ → (∀ y ∈ news, y ∈ news₁) → (al, listOf vs c) ∈ news₁ → TripsL news₁ vs (witL (fun a b => decide (a ≠ b)) st su (topW st su)) → s₁.gens = s.gens → s₁.os = s.os → Q (.ref al) s₁),
  wpAny (model PySem.Challenge.rw_wu0100_01.row.prog w) (ktrTop dp un gd cn cs L a ccd cl outer) (call (.ref 259) [.ref pa, .ref pb]) Q E s := by
  k_fill
  intro w loose mean mg mb dp un gd cn cs a ccd cl outer A₀ base h₀ L m s Q E news pa pb st su B F X N T hk hdp hun W W2 hret
  refine wpAny_call ?_
  k_dflt (refine' code_def ?k1 ?k2 ?k3 ?k4 ?k5 ?kA ?kF ?kK ?k6 ?k7 ?k8 ?k9 ?kB ?_ ?c2 ?c3 ?c4 ?c5; (case kA => exact rfl); (case kF => exact rfl); (case kK => first | exact rfl | assumption); (case k1 => k_asm); (case k2 => k_asm); (case k3 => k_asm); (case k4 => k_asm); (case k5 => k_asm); (case k6 => k_is); (case k7 => k_is); (case k8 => ktr_room); (case k9 => exact BindsTo.of_eq rfl); (case c5 => decide); (case kB => exact locs rfl); (case c2 => exact rfl); (case c3 => exact rfl); (case c4 => exact rfl); k_whole; intro g' L' h' FG' F' N' B' X' T'; (try dsimp only); (try k_lift B'); (try k_fold))
  (refine WsL.elim W ?_; intro fd T1 T2 ws x a1 a2 a3 a4 a5 t1 t2 t3 t4 t5 kx kn knt kb m1 m2 m3 m4  hws)
  (refine WsL.elim W2 ?_; intro fe U1 U2 wu y c1 c2 c3 c4 c5 r1 r2 r3 r4 r5 ky kn' knt' kb' n1 n2 n3 n4  hwu)
  have w1 := W.hl
  have w2 := W.hb
  have w3 := W2.hl
  have w4 := W2.hb
  have htop : topW st su ≤ 21 := by unfold topW; (first | lia | omega)
  have hti := topW_int st su
  obtain ⟨M0', ⟨f1, f2⟩, F0⟩ := fr_gen (P := fun M => M (Str.ofString "self") = some (.ref pa) ∧ M (Str.ofString "other") = some (.ref pb)) F' ⟨rfl, rfl⟩
  clear F'
  k_steps
  rename_i al h2 hal h1 F5 N5 h0' tk0 t₁ u₁ v₁ A3 A2 A1 A0
  refine' loop_range (L := L') (n := topW st su) (I := InvL (fun a b => decide (a ≠ b)) st su al news pa pb s.gens s.os) A3 (size_one (by (first | lia | omega))) (small_one (k := topW st su) (by (first | lia | omega)) (by (first | lia | omega))) rfl rfl rfl rfl A2 A1 ?h0 ?hb ?hQ
  case h0 =>
    refine fun _ K => K #[] 0 news rfl (Nat.zero_le _) (fun y hy => Nat.ne_of_lt (hal y hy)) (fun y hy => hy) .nil ?_ ?_ ?_ (by clear K; simp only [*]) (by clear K; simp only [*])
    all_goals ((repeat (refine Eq.trans (if_neg ?_) ?_; focus decide)); first | exact if_pos rfl | assumption)
  · clear F5 N5 A3 A2 A1 A0
    intro it i rest m₁ s₁ tk o' E' hit hi hc hI1 hne F7 N7
    try k_fold
    refine hI1 _ ?_
    intro vs c R hrest hvz hR hsub hT p1 p2 p3 hg hos
    subst hrest
    clear hI1
    rw [show ((1 : Int) + (i : Int) * 1) = ((1 + i : Nat) : Int) by (first | lia | omega)] at F7
    have WR : WsL ((it, o') :: (al, listOf vs c) :: R) pa st := W.mono fun y hy => .tail _ (.tail _ (hsub y hy))
    have WR2 : WsL ((it, o') :: (al, listOf vs c) :: R) pb su := W2.mono fun y hy => .tail _ (.tail _ (hsub y hy))
    have q1 : @Ne Nat al it := hne _ (.head _)
    have hof : OwnOff R [al] := fun p hp b hb => by cases List.mem_singleton.mp hb; exact hR p hp
    have m1' := hsub _ m1
    have m2' := hsub _ m2
    have n1' := hsub _ n1
    have n2' := hsub _ n2
    clear W W2 hit m1 m2 m3 m4 n1 n2 n3 n4
    k_steps
    · rename _ ∧ _ ∧ AllLt _ _ => lT
      rename News _ _ _ _ => N9
      rename Fr _ _ _ _ => F9
      have g1 := lT.1
      have g2 := lT.2.1
      have hy : witL (fun a b => decide (a ≠ b)) st su (i + 1) = witL (fun a b => decide (a ≠ b)) st su i ++ [(1 + i, indW (1 + i) st, indW (1 + i) su)] := witL_yes (by simp only [decide_eq_true_eq, ne_eq]; (try simp only [bne_iff_ne, ne_eq, Bool.not_eq_true, bne_eq_false_iff_eq] at *); (first | lia | omega))
      refine ⟨(it, o') :: (al, _) :: (_, _) :: R, _, .head _, fun _ K => K _ _ _ (dropL_head (List.forall_mem_cons.mpr ⟨q1, List.forall_mem_cons.mpr ⟨Nat.ne_of_gt g1, fun y hy => hne y (.tail _ hy)⟩⟩)) (by rw [Array.size_push]; exact Nat.succ_le_succ hvz) (List.forall_mem_cons.mpr ⟨Nat.ne_of_gt g2, hR⟩) (fun y hy => .tail _ (hsub y hy)) (by rw [hy]; exact (hT.mono fun y hy => .tail _ hy).push (.head _)) ?_ ?_ ?_ (by clear K; simp only [*]) (by clear K; simp only [*]), F9, cb_drop N9 (mem_mid' (pre := [_, _]))⟩
      all_goals ((repeat (refine Eq.trans (if_neg ?_) ?_; focus decide)); assumption)
    · rename News _ _ _ _ => N9
      rename Fr _ _ _ _ => F9
      have hy : witL (fun a b => decide (a ≠ b)) st su (i + 1) = witL (fun a b => decide (a ≠ b)) st su i := witL_no (by simp only [decide_eq_false_iff_not, ne_eq]; (try simp only [bne_iff_ne, ne_eq, Bool.not_eq_true, bne_eq_false_iff_eq] at *); (first | lia | omega))
      refine ⟨(it, o') :: (al, _) :: R, _, .head _, fun _ K => K _ _ _ (dropL_head hne) (Nat.le_succ_of_le hvz) hR hsub (by rw [hy]; exact hT) ?_ ?_ ?_ (by clear K; simp only [*]) (by clear K; simp only [*]), F9, N9⟩
      all_goals ((repeat (refine Eq.trans (if_neg ?_) ?_; focus decide)); assumption)
  · intro rest m₁ s₁ hI1 F7 N7
    try k_fold
    refine hI1 _ ?_
    intro vs c R hrest hvz hR hsub hT p1 p2 p3 hg hos
    subst hrest
    clear hI1
    try dsimp only
    k_steps
    exact hret _ _ _ _ _ (by k_asm) (by k_asm) (fun y hy => .tail _ (hsub y hy)) (.head _) (hT.mono fun y hy => .tail _ hy) hg hos
end
section
open PySem PySem.Spec PySem.Calls PySem.W PyProof.Rows
set_option maxRecDepth 100000
set_option maxHeartbeats 0
noncomputable def lessW (st su : WSt) : Bool := if su.n ≤ st.n then false else if st.cnt.length ≤ 1 ∧ su.cnt.length ≤ 1 then decide (st.nt ≤ su.nt) else (List.range (topW st su - 1)).all fun k => decide (indW (2 + k) st < indW (2 + k) su)
theorem size_two {k : Nat} {a : Int} (e : a = (k : Int) + 1) : Builtin.Range.rangeSize 2 a 1 = ((k - 1 : Nat) : Int) := by
  subst e
  unfold Builtin.Range.rangeSize
  simp
  (first | lia | omega)
theorem small_two {k : Nat} {a : Int} (e : a = (k : Int) + 1) (hk : k ≤ 900) : Builtin.Range.small 2 a 1 = true := by
  unfold Builtin.Range.small
  rw [size_two e, e]
  simp [Builtin.Range.rangeFitsLong]
  (first | lia | omega)
theorem rows_S25_1 : True := by
  k_with_none
  w_top off
  k_with "zv" => ((repeat (first | (refine Eq.trans (ite_off ?_) ?_; focus decide) | (refine Eq.trans (upd_off ?_) ?_; focus decide))); first | with_reducible assumption | exact if_pos rfl | exact upd_on)
  k_with "z8" => ((try (case A => assumption)); (case B => k_asm); (case F => k_asm); (case X => k_asm); (case N => first | k_asm | exact cb_drop (by k_asm) (by intro p hp; repeat (first | exact hp | apply List.Mem.tail))); (case T => k_asm); (case hk => first | exact rfl | assumption); (case hdp => ktr_room); (case hun => ktr_units); (try (case G => assumption)))
  k_with "zw" => (first | assumption | exact WsL.mono (by assumption) (by intro p hp; repeat (first | exact hp | apply List.Mem.tail)))
  k_with "k_mem" => (assumption)
  k_with "k_ne" => (first | exact ne_mem1 (by with_reducible assumption) (by with_reducible assumption) | exact ne_mem2 (by with_reducible assumption) (by with_reducible assumption))
  k_with "wpAt" => ((fail_if_success ks_step "execs cons"); dsimp only; ks_step "execs cons"; refine ks_wpAt_execs_cons ?_)
  k_with "wpAt" => (ks_step "eval Call"; k_dflt (refine ks_wpAt_MethodCall ?_))
  k_with "k_ne" => (first | exact ne_mem1 (by with_reducible assumption) (by with_reducible assumption) | exact ne_mem1 (And.right (by with_reducible assumption)) (by with_reducible assumption) | exact ne_mem1 (And.right (And.right (by with_reducible assumption))) (by with_reducible assumption) | exact ne_mem1 (And.right (And.right (And.right (by with_reducible assumption)))) (by with_reducible assumption) | exact ne_mem1 (And.right (And.right (And.right (And.right (by with_reducible assumption))))) (by with_reducible assumption) | exact ne_mem1 (And.right (And.right (And.right (And.right (And.right (by with_reducible assumption)))))) (by with_reducible assumption) | exact ne_mem1 (And.right (And.right (And.right (And.right (And.right (And.right (by with_reducible assumption))))))) (by with_reducible assumption))
  k_with "k_mem" => (first | with_reducible assumption | with_reducible exact List.Mem.head _ | with_reducible exact List.Mem.tail _ (by assumption) | with_reducible exact List.Mem.tail _ (List.Mem.tail _ (by assumption)) | with_reducible exact List.Mem.tail _ (List.Mem.tail _ (List.Mem.tail _ (by assumption))))
  k_with "call ref" => (k_here; k_dflt ((with_reducible show wpAny _ _ (call (Value.ref 238) _ _) _ _ _); (apply longest; walk_at "z8"; (· walk_at "zw"); k_whole; intros)))
  k_with "call ref" => (k_here; k_dflt ((with_reducible show wpAny _ _ (call (Value.ref 245) _ _) _ _ _); (apply indent; walk_at "z8"; (· walk_at "zw"); (· (first | lia | omega)); (· (first | lia | omega)); k_whole; intros)))
  k_with "call builtin:max" => (k_here; (with_reducible show wpAny _ _ (call (Value.builtin _) [Value.int _ _, Value.int _ _]) _ _ _); k_dflt (refine max_K (by exact rfl) (by k_asm) (by k_asm) ?_; k_whole; intros))
  k_with "eval Name" => (k_here; k_dflt (first | (refine nameX_K (by k_asm) (by k_asm) (by k_asm) (by k_is) ?_ (by rfl) (by rfl); k_whole) | (refine nameX_B (by k_asm) (by k_asm) (by k_asm) (by k_is) (by boot_fast) (by decide) ?_ (by rfl) (by rfl); k_whole)))
  k_with "eval Name" => ((first | ((with_reducible show wpAny _ _ (eval (Expr.Name _ _) (envOf _ _ _ _ _)) _ _ _); refine ld (by assumption) (by walk_at "zv") ?_) | ((with_reducible show wpAny _ _ (eval (Expr.Name _ _) (envOfC _ _ _ _ _)) _ _ _); refine ldC (by assumption) (by walk_at "zv") ?_)); k_whole)
  k_with "exec For" => (refine For_loop ?_ (by intro _; with_unfolding_all rfl))
  k_with "exec For Name Call cons nil" => (refine For_loop ?_ (by intro _; with_unfolding_all rfl))
  k_with "exec For Name Name cons nil" => (refine For_loop ?_ (by intro _; with_unfolding_all rfl))
  k_with "exec For Name Attribute cons nil" => (refine For_loop ?_ (by intro _; with_unfolding_all rfl))
  k_with "execs cons" => (first | (k_here; k_gentoks) | ((try (rename Flow → Shared → Prop => qq; clear qq)); (try (rename Value → Shared → Prop => qq; clear qq)); refine wpAny_execs_cons ?_; (try dsimp only); k_fold))
  trivial
theorem less : ∀ {w : World} {loose : List Str} {mean : ExcName → Option Value} {mg mb : Str → Option Value} {dp un : Nat} {gd : Option (List Code)} {cn : Str} {cs : Scope} {a : Addr} {ccd : Value} {cl : List (Str × Addr)} {outer : List Env} {A₀ : Around} {base h₀ : Heap} {L : Addr} {m : Str → Option Value} {s : Shared} {Q E : Value → Shared → Prop} {news : List (Addr × Obj)} {pa pb : Addr} {st su : WSt}
  (B : Below A₀ base outer h₀) (F : Fr h₀ L s.heap m) (X : (fr.heap_1 w.params).In h₀) (N : News h₀ L s.heap news) (T : Top topProg loose mean mg mb h₀) (hk : cs.kind = .function) (hdp : dp + 26 < recursionLimit) (hun : un + 340 < cLine) (W : WsL news pa st) (W2 : WsL news pb su) (hret : ∀ (s₁ : Shared), Fr h₀ L s₁.heap m → News h₀ L s₁.heap news → s₁.gens = s.gens → s₁.os = s.os → Q (.bool (lessW st su)) s₁),
  wpAny (model PySem.Challenge.rw_wu0100_01.row.prog w) (ktrTop dp un gd cn cs L a ccd cl outer) (call (.ref 266) [.ref pa, .ref pb]) Q E s := by
  k_fill
  intro w loose mean mg mb dp un gd cn cs a ccd cl outer A₀ base h₀ L m s Q E news pa pb st su B F X N T hk hdp hun W W2 hret
  refine wpAny_call ?_
  k_dflt (refine' code_def ?k1 ?k2 ?k3 ?k4 ?k5 ?kA ?kF ?kK ?k6 ?k7 ?k8 ?k9 ?kB ?_ ?c2 ?c3 ?c4 ?c5; (case kA => exact rfl); (case kF => exact rfl); (case kK => first | exact rfl | assumption); (case k1 => k_asm); (case k2 => k_asm); (case k3 => k_asm); (case k4 => k_asm); (case k5 => k_asm); (case k6 => k_is); (case k7 => k_is); (case k8 => ktr_room); (case k9 => exact BindsTo.of_eq rfl); (case c5 => decide); (case kB => exact locs rfl); (case c2 => exact rfl); (case c3 => exact rfl); (case c4 => exact rfl); k_whole; intro g' L' h' FG' F' N' B' X' T'; (try dsimp only); (try k_lift B'); (try k_fold))
  (refine WsL.elim W ?_; intro fd T1 T2 ws x a1 a2 a3 a4 a5 t1 t2 t3 t4 t5 kx kn knt kb m1 m2 m3 m4  hws)
  (refine WsL.elim W2 ?_; intro fe U1 U2 wu y c1 c2 c3 c4 c5 r1 r2 r3 r4 r5 ky kn' knt' kb' n1 n2 n3 n4  hwu)
  obtain ⟨-, w1, w2, -, -, -⟩ := id W
  obtain ⟨-, w3, w4, -, -, -⟩ := id W2
  have htop : topW st su ≤ 21 := by unfold topW; (first | lia | omega)
  have hti := topW_int st su
  obtain ⟨M0', ⟨f1, f2⟩, F0⟩ := fr_gen (P := fun M => M (Str.ofString "self") = some (.ref pa) ∧ M (Str.ofString "other") = some (.ref pb)) F' ⟨rfl, rfl⟩
  clear F'
  k_steps
  · have e : lessW st su = false := by unfold lessW; rw [if_pos (by (first | lia | omega))]
    rw [← e]
    exact hret _ (by k_asm) (by k_asm) rfl rfl
  · have e : lessW st su = decide ((st.nt : Int) ≤ (su.nt : Int)) := by
      unfold lessW
      rw [if_neg (by (first | lia | omega)), if_pos (by (first | lia | omega))]
      by_cases h : st.nt ≤ su.nt
      · rw [decide_eq_true h, decide_eq_true (by (first | lia | omega))]
      · rw [decide_eq_false h, decide_eq_false (by (first | lia | omega))]
    rw [← e]
    exact hret _ (by k_asm) (by k_asm) rfl rfl
  all_goals
    rename_i h0' tk0 t₁ u₁ v₁ A3 A2 A1 A0
    have hn1 : ¬ (su.n ≤ st.n) := by (first | lia | omega)
    have hn2 : ¬ (st.cnt.length ≤ 1 ∧ su.cnt.length ≤ 1) := by (first | lia | omega)
    refine' loop_range (L := L') (n := topW st su - 1) (I := fun i rest m₁ g o => rest = news ∧ (∀ k, k < i → indW (2 + k) st < indW (2 + k) su) ∧ m₁ (Str.ofString "self") = some (.ref pa) ∧ m₁ (Str.ofString "other") = some (.ref pb) ∧ g = s.gens ∧ o = s.os) A3 (size_two (by (first | lia | omega))) (small_two (k := topW st su) (by (first | lia | omega)) (by (first | lia | omega))) rfl rfl rfl rfl A2 A1 ?h0 ?hb ?hQ
    case h0 =>
      refine ⟨rfl, fun k hk => by (first | lia | omega), ?_, ?_, by simp only [*], by simp only [*]⟩
      all_goals ((repeat (refine Eq.trans (if_neg ?_) ?_; focus decide)); first | exact if_pos rfl | assumption)
    case hb =>
      clear A3 A2 A1 A0
      intro it i rest m₁ s₁ tk o' E' hit hi hc hI1 hne F7 N7
      try k_fold
      obtain ⟨hrest, hall, p2, p3, hg, hos⟩ := hI1
      subst hrest
      rw [show ((2 : Int) + (i : Int) * 1) = ((2 + i : Nat) : Int) by (first | lia | omega)] at F7
      have WR : WsL ((it, o') :: rest) pa st := W.mono fun y hy => .tail _ hy
      have WR2 : WsL ((it, o') :: rest) pb su := W2.mono fun y hy => .tail _ hy
      clear W W2 hit
      k_steps
      · have e : lessW st su = false := by
          unfold lessW
          rw [if_neg hn1, if_neg hn2, List.all_eq_false]
          exact ⟨i, List.mem_range.mpr hi, by simp only [decide_eq_true_eq]; (first | lia | omega)⟩
        have hq := hret _ (by k_asm) (cb_drop (by k_asm) (by intro p hp; repeat (first | exact hp | apply List.Mem.tail))) (by simp only [*]) (by simp only [*])
        rw [e] at hq
        exact hq
      · rename News _ _ _ _ => N9
        rename Fr _ _ _ _ => F9
        have hlt : indW (2 + i) st < indW (2 + i) su := by (first | lia | omega)
        refine ⟨_, _, .head _, ⟨dropL_head hne, fun k hk => ?_, ?_, ?_, by simp only [*], by simp only [*]⟩, F9, N9⟩
        · rcases Nat.lt_succ_iff_lt_or_eq.mp hk with h | h
          · exact hall k h
          · rw [h]; exact hlt
        all_goals ((repeat (refine Eq.trans (if_neg ?_) ?_; focus decide)); assumption)
    case hQ =>
      intro rest m₁ s₁ hI1 F7 N7
      try k_fold
      obtain ⟨hrest, hall, p2, p3, hg, hos⟩ := hI1
      subst hrest
      try dsimp only
      have e : lessW st su = true := by
        unfold lessW
        rw [if_neg hn1, if_neg hn2, List.all_eq_true]
        exact fun k hk => decide_eq_true (hall k (List.mem_range.mp hk))
      k_steps
      have hq := hret _ (by k_asm) (by k_asm) hg hos
      rw [e] at hq
      exact hq
end
section
open PySem PySem.Spec PySem.Calls PySem.W PyProof.Rows
set_option maxRecDepth 100000
set_option maxHeartbeats 0
noncomputable def runsOf (x : Nat) : List Nat := [x % 5, x / 5 % 5].take (x / 125 % 3)
noncomputable def restOf (x : Nat) : Nat := x / 25 % 5
theorem intsL_of : ∀ {vs : List Value} {ns : List Int} {rs : List Nat}, IntsAre vs ns → ns = rs.map (fun r : Nat => (r : Int)) → IntsL vs.toArray rs
  | _, _, [], .nil, _ => .nil
  | _, _, _ :: _, .nil, e => by cases e
  | _, _, [], .cons _ _ _, e => by cases e
  | _, _, r :: rs, .cons i t h, e => by
    rw [List.map_cons, List.cons.injEq] at e
    obtain ⟨e1, e2⟩ := e
    have ih := intsL_of h e2
    refine ⟨by have := ih.1; simp at this ⊢; exact this, fun j hj => ?_⟩
    cases j with
    | zero => exact ⟨t, by simp [e1]⟩
    | succ j =>
      obtain ⟨tk, q⟩ := ih.2 j (by simpa using hj)
      exact ⟨tk, by simpa using q⟩
theorem rows_S27_1 : True := by
  k_with_none
  w_top off
  k_with "k_mem" => (assumption)
  k_with "k_ne" => (first | exact ne_mem1 (by with_reducible assumption) (by with_reducible assumption) | exact ne_mem2 (by with_reducible assumption) (by with_reducible assumption))
  k_with "wpAt" => ((fail_if_success ks_step "execs cons"); dsimp only; ks_step "execs cons"; refine ks_wpAt_execs_cons ?_)
  k_with "wpAt" => (ks_step "eval Call"; k_dflt (refine ks_wpAt_MethodCall ?_))
  k_with "k_ne" => (first | exact ne_mem1 (by with_reducible assumption) (by with_reducible assumption) | exact ne_mem1 (And.right (by with_reducible assumption)) (by with_reducible assumption) | exact ne_mem1 (And.right (And.right (by with_reducible assumption))) (by with_reducible assumption) | exact ne_mem1 (And.right (And.right (And.right (by with_reducible assumption)))) (by with_reducible assumption) | exact ne_mem1 (And.right (And.right (And.right (And.right (by with_reducible assumption))))) (by with_reducible assumption) | exact ne_mem1 (And.right (And.right (And.right (And.right (And.right (by with_reducible assumption)))))) (by with_reducible assumption) | exact ne_mem1 (And.right (And.right (And.right (And.right (And.right (And.right (by with_reducible assumption))))))) (by with_reducible assumption))
  k_with "k_mem" => (first | with_reducible assumption | with_reducible exact List.Mem.head _ | with_reducible exact List.Mem.tail _ (by assumption) | with_reducible exact List.Mem.tail _ (List.Mem.tail _ (by assumption)) | with_reducible exact List.Mem.tail _ (List.Mem.tail _ (List.Mem.tail _ (by assumption))))
  k_with "execs cons" => (first | (k_here; k_gentoks) | ((try (rename Flow → Shared → Prop => qq; clear qq)); (try (rename Value → Shared → Prop => qq; clear qq)); refine wpAny_execs_cons ?_; (try dsimp only); k_fold))
  trivial
theorem lead : ∀ {w : World} {loose : List Str} {mean : ExcName → Option Value} {mg mb : Str → Option Value} {dp un : Nat} {gd : Option (List Code)} {cn : Str} {cs : Scope} {a : Addr} {ccd : Value} {cl : List (Str × Addr)} {outer : List Env} {A₀ : Around} {base h₀ : Heap} {L : Addr} {m : Str → Option Value} {s : Shared} {Q E : Value → Shared → Prop} {news : List (Addr × Obj)} {x : Nat} {kx : Tok}
  (B : Below A₀ base outer h₀) (F : Fr h₀ L s.heap m) (X : (fr.heap_1 w.params).In h₀) (N : News h₀ L s.heap news) (T : Top topProg loose mean mg mb h₀) (hk : cs.kind = .function) (hdp : dp + 12 < recursionLimit) (hun : un + 160 < cLine) (hret : ∀ (T D : Nat) ws kb h₁ tk₁, Fr h₀ L h₁ m → News h₀ L h₁ ((T, tupOf #[.ref D, .int (restOf x : Int) kb]) :: (D, listOf ws 0) :: news) → IntsL ws (runsOf x) → (∀ p ∈ news, @LT.lt Nat _ p.1 D) → @LT.lt Nat _ D T → Q (.ref T) { s with heap := h₁, toks := tk₁ }),
  wpAny (model PySem.Challenge.rw_wu0100_01.row.prog w) (ktrTop dp un gd cn cs L a ccd cl outer) (call (.ref 301) [.int (x : Int) kx]) Q E s := by
  k_fill
  intro w loose mean mg mb dp un gd cn cs a ccd cl outer A₀ base h₀ L m s Q E news x kx B F X N T hk hdp hun hret
  refine wpAny_call ?_
  k_dflt (refine' code_def ?k1 ?k2 ?k3 ?k4 ?k5 ?kA ?kF ?kK ?k6 ?k7 ?k8 ?k9 ?kB ?_ ?c2 ?c3 ?c4 ?c5; (case kA => exact rfl); (case kF => exact rfl); (case kK => first | exact rfl | assumption); (case k1 => k_asm); (case k2 => k_asm); (case k3 => k_asm); (case k4 => k_asm); (case k5 => k_asm); (case k6 => k_is); (case k7 => k_is); (case k8 => ktr_room); (case k9 => exact BindsTo.of_eq rfl); (case c5 => decide); (case kB => exact locs rfl); (case c2 => exact rfl); (case c3 => exact rfl); (case c4 => exact rfl); k_whole; intro g' L' h' FG' F' N' B' X' T'; (try dsimp only); (try k_lift B'); (try k_fold))
  k_steps
  rename IntsAre _ _ => hI
  rename _ ∧ _ ∧ AllLt _ _ => lT
  rename _ ∧ AllLt _ _ => lD
  rename News h₀ L _ _ => N9
  have e1 : (x : Int).fmod 5 = ((x % 5 : Nat) : Int) := by rw [Int.fmod_eq_emod_of_nonneg _ (by (first | lia | omega))]; norm_cast
  have e2 : ((x : Int).fdiv 5).fmod 5 = ((x / 5 % 5 : Nat) : Int) := by rw [Int.fdiv_eq_ediv_of_nonneg _ (by (first | lia | omega)), Int.fmod_eq_emod_of_nonneg _ (by (first | lia | omega))]; norm_cast
  have e3 : (((x : Int).fdiv 125).fmod 3).toNat = x / 125 % 3 := by rw [Int.fdiv_eq_ediv_of_nonneg _ (by (first | lia | omega)), Int.fmod_eq_emod_of_nonneg _ (by (first | lia | omega))]; (first | lia | omega)
  have e4 : ((x : Int).fdiv 25).fmod 5 = (restOf x : Int) := by unfold restOf; rw [Int.fdiv_eq_ediv_of_nonneg _ (by (first | lia | omega)), Int.fmod_eq_emod_of_nonneg _ (by (first | lia | omega))]; norm_cast
  rw [e1, e2, e3] at hI
  rw [e4] at N9
  have hI2 := intsL_of (rs := runsOf x) hI (by unfold runsOf; rw [List.map_take]; rfl)
  refine hret _ _ _ _ _ _ (by k_asm) (cb_drop N9 (by intro p hp; rcases List.mem_cons.mp hp with rfl | hp; exact .head _; rcases List.mem_cons.mp hp with rfl | hp; exact .tail _ (.head _); exact .tail _ (.tail _ (.tail _ hp)))) hI2 (allLt_all _ lD.2) lT.1
end
section
open PySem PySem.Spec PySem.Calls PySem.W PyProof.Rows
set_option maxRecDepth 100000
set_option maxHeartbeats 0
noncomputable def allRuns : List (List Nat) := [] :: (List.range 5).flatMap fun a => [a] :: (List.range 5).map fun b => [a, b]
noncomputable def preOf (rs : List Nat) (rest : Nat) : List Nat := rs.flatMap (fun r => List.replicate r 32 ++ [9]) ++ List.replicate rest 32
noncomputable def rowsN (t : Nat) (rs : List Nat) : Nat := (rs.map fun r => r / t + 1).sum
noncomputable def stOf (rs : List Nat) (rest : Nat) : WSt := wsRun (preOf rs rest)
noncomputable def trim (l : List Nat) : List Nat := (l.reverse.dropWhile (fun c => c == 0)).reverse
noncomputable def topOf (p q : List Nat × Nat) : Nat := 1 + (p.1 ++ [p.2] ++ (q.1 ++ [q.2])).foldl max 0
theorem allRuns_mem {a b : Nat} (ha : a < 5) (hb : b < 5) : [] ∈ allRuns ∧ [a] ∈ allRuns ∧ [a, b] ∈ allRuns := by
  have h : ∀ a ∈ List.range 5, ∀ b ∈ List.range 5, [] ∈ allRuns ∧ [a] ∈ allRuns ∧ [a, b] ∈ allRuns := by decide +kernel
  exact h a (List.mem_range.2 ha) b (List.mem_range.2 hb)
theorem runsOf_mem (x : Nat) : runsOf x ∈ allRuns := by
  obtain ⟨h0, h1, h2⟩ := allRuns_mem (Nat.mod_lt x (by decide : 0 < 5)) (Nat.mod_lt (x / 5) (by decide : 0 < 5))
  unfold runsOf
  have h3 : x / 125 % 3 < 3 := Nat.mod_lt _ (by decide)
  rcases (by (first | lia | omega) : x / 125 % 3 = 0 ∨ x / 125 % 3 = 1 ∨ x / 125 % 3 = 2) with e | e | e <;> rw [e]
  · exact h0
  · exact h1
  · exact h2
theorem restOf_lt (x : Nat) : restOf x < 5 := Nat.mod_lt _ (by decide)
theorem ind_plain0 : ∀ rs ∈ allRuns, ∀ rest ∈ List.range 5, ∀ k ∈ List.range 5, indW (1 + k) (stOf rs rest) = (1 + k) * rowsN (1 + k) rs + rest := by decide +kernel
theorem ind_plain {rs : List Nat} {rest t : Nat} (hr : rs ∈ allRuns) (hq : rest < 5) (h0 : 1 ≤ t) (h1 : t ≤ 5) : indW t (stOf rs rest) = t * rowsN t rs + rest := by
  have h := ind_plain0 rs hr rest (List.mem_range.2 hq) (t - 1) (List.mem_range.2 (by (first | lia | omega)))
  rwa [show 1 + (t - 1) = t by (first | lia | omega)] at h
theorem cnt_plain0 : ∀ rs ∈ allRuns, ∀ rest ∈ List.range 5, ∀ k ∈ List.range 5, (∀ r ∈ rs, r < 1 + k) → (stOf rs rest).cnt = trim ((List.range (1 + k)).map fun r => rs.count r) := by decide +kernel
theorem cnt_plain {rs : List Nat} {rest N : Nat} (hr : rs ∈ allRuns) (hq : rest < 5) (h0 : 1 ≤ N) (h1 : N ≤ 5) (hN : ∀ r ∈ rs, r < N) : (stOf rs rest).cnt = trim ((List.range N).map fun r => rs.count r) := by
  have h := cnt_plain0 rs hr rest (List.mem_range.2 hq) (N - 1) (List.mem_range.2 (by (first | lia | omega)))
  rw [show 1 + (N - 1) = N by (first | lia | omega)] at h
  exact h hN
theorem found_plain0 : ∀ rs ∈ allRuns, ∀ k ∈ List.range 5, (∀ r ∈ rs, r < 1 + k) → ∀ t ∈ List.range 5, 1 ≤ t → t < 1 + k → rowsN t rs = rowsN (1 + k) rs + ((List.range (1 + k - (t + 1))).map fun j => (t + 1 + j) / t * rs.count (t + 1 + j)).sum + rs.count t := by decide +kernel
theorem found_plain {rs : List Nat} {N t : Nat} (hr : rs ∈ allRuns) (h0 : 1 ≤ N) (h1 : N ≤ 5) (hN : ∀ r ∈ rs, r < N) (t0 : 1 ≤ t) (t1 : t < N) : rowsN t rs = rowsN N rs + ((List.range (N - (t + 1))).map fun j => (t + 1 + j) / t * rs.count (t + 1 + j)).sum + rs.count t := by
  have h := found_plain0 rs hr (N - 1) (List.mem_range.2 (by (first | lia | omega)))
  rw [show 1 + (N - 1) = N by (first | lia | omega)] at h
  exact h hN t (List.mem_range.2 (by (first | lia | omega))) t0 t1
theorem zero_plain0 : ∀ rs ∈ allRuns, ∀ k ∈ List.range 5, (∀ r ∈ rs, r < 1 + k) → rowsN (1 + k) rs = rs.count 0 + ((List.range k).map fun j => rs.count (1 + j)).sum := by decide +kernel
theorem zero_plain {rs : List Nat} {N : Nat} (hr : rs ∈ allRuns) (h0 : 1 ≤ N) (h1 : N ≤ 5) (hN : ∀ r ∈ rs, r < N) : rowsN N rs = rs.count 0 + ((List.range (N - 1)).map fun j => rs.count (1 + j)).sum := by
  have h := zero_plain0 rs hr (N - 1) (List.mem_range.2 (by (first | lia | omega)))
  rw [show 1 + (N - 1) = N by (first | lia | omega)] at h
  exact h hN
theorem b_plain0 : ∀ rs ∈ allRuns, ∀ rest ∈ List.range 5, (stOf rs rest).b = rest ∧ (stOf rs rest).nt = rs.length ∧ (stOf rs rest).n = rowsN 1 rs + rest ∧ (stOf rs rest).cnt.length = rs.foldl (fun m r => max m (r + 1)) 0 := by decide +kernel
theorem pre_plain0 : ∀ rs ∈ allRuns, ∀ rest ∈ List.range 5, (∀ c ∈ preOf rs rest, c = 32 ∨ c = 9) ∧ (preOf rs rest).length ≤ 20 := by decide +kernel
theorem pre_plain {rs : List Nat} {rest : Nat} (hr : rs ∈ allRuns) (hq : rest < 5) : (∀ c ∈ preOf rs rest, c = 32 ∨ c = 9) ∧ (preOf rs rest).length ≤ 20 := pre_plain0 rs hr rest (List.mem_range.2 hq)
/-- the run maximum of a lead -/
noncomputable def peak (rs : List Nat) (rest : Nat) : Nat := max ((rs.foldl (fun m r => max m (r + 1)) 0) - 1) rest
theorem peak_plain0 : ∀ rs ∈ allRuns, ∀ rest ∈ List.range 5, max ((stOf rs rest).cnt.length - 1) (stOf rs rest).b = peak rs rest ∧ peak rs rest = (rs ++ [rest]).foldl max 0 ∧ peak rs rest < 5 ∧ rest ≤ peak rs rest ∧ (∀ r ∈ rs, r ≤ peak rs rest) := by decide +kernel
theorem peak_plain {rs : List Nat} {rest : Nat} (hr : rs ∈ allRuns) (hq : rest < 5) : max ((stOf rs rest).cnt.length - 1) (stOf rs rest).b = peak rs rest ∧ peak rs rest = (rs ++ [rest]).foldl max 0 ∧ peak rs rest < 5 ∧ rest ≤ peak rs rest ∧ (∀ r ∈ rs, r ≤ peak rs rest) := peak_plain0 rs hr rest (List.mem_range.2 hq)
noncomputable def topN (rs : List Nat) (rest : Nat) (ss : List Nat) (rest' : Nat) : Nat := 1 + max (peak rs rest) (peak ss rest')
theorem top_plain {rs ss : List Nat} {rest rest' : Nat} (hr : rs ∈ allRuns) (hq : rest < 5) (hs : ss ∈ allRuns) (hu : rest' < 5) : topW (stOf rs rest) (stOf ss rest') = topN rs rest ss rest' := by
  obtain ⟨p1, _⟩ := peak_plain hr hq
  obtain ⟨q1, _⟩ := peak_plain hs hu
  unfold topW topN
  rw [p1, q1]
  (first | lia | omega)
noncomputable def tabRow (rs : List Nat) (rest : Nat) (ss : List Nat) (rest' : Nat) (k : Nat) : Nat × Nat × Nat := (1 + k, (1 + k) * rowsN (1 + k) rs + rest, (1 + k) * rowsN (1 + k) ss + rest')
noncomputable def tableL (rs : List Nat) (rest : Nat) (ss : List Nat) (rest' : Nat) : List (Nat × Nat × Nat) := (List.range (topN rs rest ss rest')).map (tabRow rs rest ss rest')
theorem topN_le {rs ss : List Nat} {rest rest' : Nat} (hr : rs ∈ allRuns) (hq : rest < 5) (hs : ss ∈ allRuns) (hu : rest' < 5) : topN rs rest ss rest' ≤ 5 := by
  obtain ⟨_, _, p, _⟩ := peak_plain hr hq
  obtain ⟨_, _, q, _⟩ := peak_plain hs hu
  unfold topN
  (first | lia | omega)
theorem wit_plain (P : Nat → Nat → Bool) {rs ss : List Nat} {rest rest' : Nat} (hr : rs ∈ allRuns) (hq : rest < 5) (hs : ss ∈ allRuns) (hu : rest' < 5) : witL P (stOf rs rest) (stOf ss rest') (topW (stOf rs rest) (stOf ss rest')) = (tableL rs rest ss rest').filter fun p => P p.2.1 p.2.2 := by
  have ht := topN_le hr hq hs hu
  rw [top_plain hr hq hs hu]
  unfold witL tableL
  rw [List.filter_map]
  have e : ∀ k ∈ List.range (topN rs rest ss rest'), indW (1 + k) (stOf rs rest) = (1 + k) * rowsN (1 + k) rs + rest ∧ indW (1 + k) (stOf ss rest') = (1 + k) * rowsN (1 + k) ss + rest' := by
    intro k hk
    have hk' := List.mem_range.1 hk
    exact ⟨ind_plain hr hq (by (first | lia | omega)) (by (first | lia | omega)), ind_plain hs hu (by (first | lia | omega)) (by (first | lia | omega))⟩
  have f : (List.range (topN rs rest ss rest')).filter (fun k => P (indW (1 + k) (stOf rs rest)) (indW (1 + k) (stOf ss rest'))) = (List.range (topN rs rest ss rest')).filter ((fun p : Nat × Nat × Nat => P p.2.1 p.2.2) ∘ tabRow rs rest ss rest') := by
    refine List.filter_congr fun k hk => ?_
    obtain ⟨e1, e2⟩ := e k hk
    rw [e1, e2]
    rfl
  rw [f]
  refine List.map_congr_left fun k hk => ?_
  obtain ⟨e1, e2⟩ := e k (List.mem_filter.1 hk).1
  rw [e1, e2]
  rfl
theorem small_rows : ∀ rs ∈ allRuns, ∀ rest ∈ List.range 5, (stOf rs rest).cnt.length ≤ 1 → ∀ k ∈ List.range 5, rowsN (1 + k) rs = (stOf rs rest).nt := by decide +kernel
theorem n_plain0 : ∀ rs ∈ allRuns, ∀ rest ∈ List.range 5, (stOf rs rest).n = rowsN 1 rs + rest ∧ (stOf rs rest).b = rest := by decide +kernel
theorem less_plain {rs ss : List Nat} {rest rest' : Nat} (hr : rs ∈ allRuns) (hq : rest < 5) (hs : ss ∈ allRuns) (hu : rest' < 5) : lessW (stOf rs rest) (stOf ss rest') = decide ((tableL rs rest ss rest').filter (fun p => decide (p.2.2 ≤ p.2.1)) = []) := by
  have ht := topN_le hr hq hs hu
  obtain ⟨n1, b1⟩ := n_plain0 rs hr rest (List.mem_range.2 hq)
  obtain ⟨n2, b2⟩ := n_plain0 ss hs rest' (List.mem_range.2 hu)
  obtain ⟨_, _, _, p4, _⟩ := peak_plain hr hq
  obtain ⟨_, _, _, q4, _⟩ := peak_plain hs hu
  have hT : 1 ≤ topN rs rest ss rest' ∧ 1 + rest ≤ topN rs rest ss rest' ∧ 1 + rest' ≤ topN rs rest ss rest' := by unfold topN; (first | lia | omega)
  have key : ((tableL rs rest ss rest').filter (fun p => decide (p.2.2 ≤ p.2.1)) = []) ↔ ∀ k, k < topN rs rest ss rest' → (1 + k) * rowsN (1 + k) rs + rest < (1 + k) * rowsN (1 + k) ss + rest' := by
    rw [List.filter_eq_nil_iff]
    unfold tableL
    simp only [List.mem_map, List.mem_range, forall_exists_index, and_imp, forall_apply_eq_imp_iff₂, tabRow, decide_eq_true_eq, Nat.not_le]
  rw [Bool.eq_iff_iff, decide_eq_true_eq, key]
  unfold lessW
  rw [top_plain hr hq hs hu, n1, n2]
  by_cases h1 : rowsN 1 ss + rest' ≤ rowsN 1 rs + rest
  · rw [if_pos h1]
    constructor
    · intro h; cases h
    · intro h
      have h2 := h 0 (by (first | lia | omega))
      simp only [Nat.add_zero, Nat.one_mul] at h2
      (first | lia | omega)
  rw [if_neg h1]
  by_cases h2 : (stOf rs rest).cnt.length ≤ 1 ∧ (stOf ss rest').cnt.length ≤ 1
  · rw [if_pos h2, decide_eq_true_eq]
    have r1 := small_rows rs hr rest (List.mem_range.2 hq) h2.1
    have r2 := small_rows ss hs rest' (List.mem_range.2 hu) h2.2
    have a1 := r1 0 (by decide)
    have a2 := r2 0 (by decide)
    rw [show 1 + 0 = 1 from rfl] at a1 a2
    rw [a1, a2] at h1
    generalize (stOf rs rest).nt = u at *
    generalize (stOf ss rest').nt = v at *
    constructor
    · intro h k hk
      rw [r1 k (List.mem_range.2 (by (first | lia | omega))), r2 k (List.mem_range.2 (by (first | lia | omega)))]
      have := Nat.mul_le_mul_left k h
      rw [Nat.add_mul, Nat.add_mul]
      (first | lia | omega)
    · intro h
      have h3 := h rest' (by (first | lia | omega))
      rw [r1 rest' (List.mem_range.2 (by (first | lia | omega))), r2 rest' (List.mem_range.2 (by (first | lia | omega)))] at h3
      refine Nat.le_of_not_lt fun h4 => ?_
      have := Nat.mul_le_mul_left (1 + rest') h4
      rw [Nat.mul_succ] at this
      (first | lia | omega)
  · rw [if_neg h2, List.all_eq_true]
    simp only [List.mem_range, decide_eq_true_eq]
    constructor
    · intro h k hk
      cases k with
      | zero => simp only [Nat.add_zero, Nat.one_mul]; (first | lia | omega)
      | succ k =>
        have h3 := h k (by (first | lia | omega))
        rw [ind_plain hr hq (by (first | lia | omega)) (by (first | lia | omega)), ind_plain hs hu (by (first | lia | omega)) (by (first | lia | omega))] at h3
        rwa [show 1 + (k + 1) = 2 + k by (first | lia | omega)]
    · intro h k hk
      have h3 := h (k + 1) (by (first | lia | omega))
      rw [ind_plain hr hq (by (first | lia | omega)) (by (first | lia | omega)), ind_plain hs hu (by (first | lia | omega)) (by (first | lia | omega))]
      rwa [show 1 + (k + 1) = 2 + k by (first | lia | omega)] at h3
theorem eq_plain0 : ∀ k ∈ List.range 5, ∀ rs ∈ allRuns, (∀ r ∈ rs, r < 1 + k) → ∀ ss ∈ allRuns, (∀ r ∈ ss, r < 1 + k) → (∀ j ∈ List.range (1 + k), rowsN (1 + j) rs = rowsN (1 + j) ss) → ∀ r ∈ List.range (1 + k), rs.count r = ss.count r := by decide +kernel
theorem ind_norm {st su : WSt} (h1 : st.cnt = su.cnt) (h2 : st.b = su.b) (h3 : st.nt = su.nt) (t : Nat) : indW t st = indW t su := by
  unfold indW
  rw [h1, h2, h3]
theorem nt_plain0 : ∀ rs ∈ allRuns, ∀ rest ∈ List.range 5, (stOf rs rest).nt = (stOf rs rest).cnt.sum := by decide +kernel
theorem equal_plain {rs ss : List Nat} {rest rest' : Nat} (hr : rs ∈ allRuns) (hq : rest < 5) (hs : ss ∈ allRuns) (hu : rest' < 5) : ((stOf rs rest).cnt = (stOf ss rest').cnt ∧ (stOf rs rest).b = (stOf ss rest').b) ↔ (tableL rs rest ss rest').filter (fun p => decide (p.2.1 ≠ p.2.2)) = [] := by
  have ht := topN_le hr hq hs hu
  obtain ⟨_, b1⟩ := n_plain0 rs hr rest (List.mem_range.2 hq)
  obtain ⟨_, b2⟩ := n_plain0 ss hs rest' (List.mem_range.2 hu)
  obtain ⟨_, _, _, p4, p5⟩ := peak_plain hr hq
  obtain ⟨_, _, _, q4, q5⟩ := peak_plain hs hu
  have m1 := nt_plain0 rs hr rest (List.mem_range.2 hq)
  have m2 := nt_plain0 ss hs rest' (List.mem_range.2 hu)
  have hT : 1 ≤ topN rs rest ss rest' ∧ 1 + peak rs rest ≤ topN rs rest ss rest' ∧ 1 + peak ss rest' ≤ topN rs rest ss rest' := by unfold topN; (first | lia | omega)
  have key : ((tableL rs rest ss rest').filter (fun p => decide (p.2.1 ≠ p.2.2)) = []) ↔ ∀ k, k < topN rs rest ss rest' → (1 + k) * rowsN (1 + k) rs + rest = (1 + k) * rowsN (1 + k) ss + rest' := by
    rw [List.filter_eq_nil_iff]
    unfold tableL
    simp only [List.mem_map, List.mem_range, forall_exists_index, and_imp, forall_apply_eq_imp_iff₂, tabRow, decide_eq_true_eq, Decidable.not_not]
  rw [key]
  constructor
  · intro ⟨h1, h2⟩ k hk
    have h3 : (stOf rs rest).nt = (stOf ss rest').nt := by rw [m1, m2, h1]
    have h4 := ind_norm h1 h2 h3 (1 + k)
    rwa [ind_plain hr hq (by (first | lia | omega)) (by (first | lia | omega)), ind_plain hs hu (by (first | lia | omega)) (by (first | lia | omega))] at h4
  · intro h
    generalize hN : topN rs rest ss rest' = N at *
    have e0 := h (N - 1) (by (first | lia | omega))
    rw [show 1 + (N - 1) = N by (first | lia | omega)] at e0
    have e1 : rest = rest' := by
      have a1 := congrArg (· % N) e0
      simp only [Nat.mul_add_mod] at a1
      rwa [Nat.mod_eq_of_lt (by (first | lia | omega)), Nat.mod_eq_of_lt (by (first | lia | omega))] at a1
    subst e1
    have e2 : ∀ j ∈ List.range (1 + (N - 1)), rowsN (1 + j) rs = rowsN (1 + j) ss := by
      intro j hj
      have hj' := List.mem_range.1 hj
      have a1 := Nat.add_right_cancel (h j (by (first | lia | omega)))
      exact Nat.eq_of_mul_eq_mul_left (by (first | lia | omega)) a1
    have e3 := eq_plain0 (N - 1) (List.mem_range.2 (by (first | lia | omega))) rs hr (fun r hr' => by have := p5 r hr'; (first | lia | omega)) ss hs (fun r hr' => by have := q5 r hr'; (first | lia | omega)) e2
    refine ⟨?_, b1.trans b2.symm⟩
    rw [cnt_plain (N := N) hr hq (by (first | lia | omega)) (by (first | lia | omega)) (fun r hr' => by have := p5 r hr'; (first | lia | omega)), cnt_plain (N := N) hs hq (by (first | lia | omega)) (by (first | lia | omega)) (fun r hr' => by have := q5 r hr'; (first | lia | omega))]
    refine congrArg trim (List.map_congr_left fun r hr' => e3 r ?_)
    rw [show 1 + (N - 1) = N by (first | lia | omega)]
    exact hr'
end
section
open PySem PySem.Spec PySem.Calls PySem.W PyProof.Rows PyProof.V
set_option maxRecDepth 100000
set_option maxHeartbeats 400000
noncomputable def fD (l : List (Nat × Nat)) : List (PyData × PyData) := l.map fun p => (PyData.int (p.1 : Int), PyData.int (p.2 : Int))
noncomputable def FoundL (prog : Program) (w : World) (o : Obj) (l : List (Nat × Nat)) : Prop := ∃ kvs, o.IsDictOf (intKind prog w) kvs ∧ FlatPairs PyData.int kvs (fD l)
theorem same_intD (a b : Int) : Spec.same (PyData.int a) (PyData.int b) = decide (a = b) := PyProof.Rows.same_int' a b
theorem fD_lookup {k v : Nat} : ∀ {l : List (Nat × Nat)}, (k, v) ∈ l → (l.map (·.1)).Nodup → lookup (PyData.int (k : Int)) (fD l) = some (.int (v : Int))
  | (a, b) :: l, h, hn => by
    rw [List.map_cons, List.nodup_cons] at hn
    by_cases e : a = k
    · have : (k, v) = (a, b) := by
        rcases List.mem_cons.1 h with h | h
        · exact h
        · exact absurd (List.mem_map.2 ⟨_, h, e.symm ▸ rfl⟩) hn.1
      cases this
      simp [fD, Spec.lookup, same_intD]
    · have h' : (k, v) ∈ l := by
        rcases List.mem_cons.1 h with h | h
        · cases h; exact absurd rfl e
        · exact h
      have ih := fD_lookup h' hn.2
      have e' : ¬ ((a : Int) = (k : Int)) := by (first | lia | omega)
      simp only [fD, List.map_cons, Spec.lookup, same_intD, e', decide_false] at ih ⊢
      simpa using ih
theorem fD_none {k : Nat} : ∀ {l : List (Nat × Nat)}, k ∉ l.map (·.1) → lookup (PyData.int (k : Int)) (fD l) = none
  | [], _ => rfl
  | (a, b) :: l, h => by
    rw [List.map_cons, List.mem_cons, not_or] at h
    have ih := fD_none h.2
    have e' : ¬ ((a : Int) = (k : Int)) := by have := h.1; simp only at this; (first | lia | omega)
    simp only [fD, List.map_cons, Spec.lookup, same_intD, e', decide_false] at ih ⊢
    simpa using ih
theorem fD_put {k v : Nat} {l : List (Nat × Nat)} (h : k ∉ l.map (·.1)) : putD (PyData.int (k : Int)) (.int (v : Int)) (fD l) = fD (l ++ [(k, v)]) := by
  rw [putD_absent (fD_none h)]
  simp [fD]
section
variable {prog : Program} {w : World} {A : Around} {E : Value → Shared → Prop} {s : Shared} {h₀ : Heap} {L d : Addr} {m : Str → Option Value} {own rest news : List (Addr × Obj)} {o : Obj}
theorem get_D {l : List (Nat × Nat)} {k v : Nat} {u : Tok} {Q : Value → Shared → Prop} (N : News h₀ L s.heap news) (hm : (d, o) ∈ news) (hd : FoundL prog w o l) (hl : (k, v) ∈ l) (hn : (l.map (·.1)).Nodup)
    (h : ∀ t, Q (.int (v : Int) t) { s with toks := s.toks + 1 }) : wpAny (model prog w) A (getItem (.ref d) (.int (k : Int) u)) Q E s := by
  obtain ⟨kvs, h1, h2⟩ := hd
  obtain ⟨x, hx, hf⟩ := h2.of_lookup same_intD (fD_lookup hl hn)
  obtain ⟨t, rfl⟩ := hf.int_inv
  exact wpAny_getItem_of (intKind_is prog w k u) (Heap.dictOf_iff.mpr ⟨o, N.get hm, h1⟩).mapOf hx (h t)
theorem set_D {l : List (Nat × Nat)} {k v : Nat} {u t : Tok} {Q : Unit → Shared → Prop} (F : Fr h₀ L s.heap m) (N : News h₀ L s.heap (own ++ (d, o) :: rest)) (h1 : ∀ p ∈ own, p.1 ≠ d) (h2 : ∀ p ∈ rest, p.1 ≠ d) (hd : FoundL prog w o l) (hk : k ∉ l.map (·.1)) (hz : l.length ≤ 100)
    (h : ∀ h' o', Fr h₀ L h' m → News h₀ L h' (own ++ (d, o') :: rest) → FoundL prog w o' (l ++ [(k, v)]) → Q () { s with heap := h', toks := s.toks + 1 }) : wpAny (model prog w) A (setItem (.ref d) (.int (k : Int) u) (.int (v : Int) t)) Q E s := by
  obtain ⟨kvs, hd1, hd2⟩ := hd
  refine setItem_madeIn (hsz := ?_) same_intD (intKind_is prog w k u) (Flat.int (v : Int) t) F N h1 h2 hd1 hd2 fun h' o' F' N' hd' hf' => h h' o' F' N' ⟨_, hd', ?_⟩
  · rw [← fD_put hk]; exact hf'
  · have : (fD l).length = l.length := by simp [fD]
    rw [this]
    exact Nat.le_trans hz (by decide)
end
end
section
open PySem PySem.Spec PySem.Calls PySem.W PyProof.Rows PyProof.V
set_option maxRecDepth 100000
set_option maxHeartbeats 400000
theorem flat_at {kvs : List (Int × Value)} : ∀ {l : List (Nat × Nat)}, FlatPairs PyData.int kvs (fD l) → ∀ i (k : Int) x, kvs[i]? = some (k, x) → ∃ hi : i < l.length, k = (l[i].1 : Int) := by
  intro l
  induction l generalizing kvs with
  | nil => intro h i k x e; cases h; simp at e
  | cons p l ih =>
    obtain ⟨a, b⟩ := p
    intro h i k x e
    generalize hD : fD ((a, b) :: l) = D at h
    cases h with
    | nil => cases hD
    | cons hv hr =>
      obtain ⟨h1, h2⟩ := List.cons.inj hD
      cases i with
      | zero =>
        simp only [List.getElem?_cons_zero, Option.some.injEq, Prod.mk.injEq] at e
        obtain ⟨h3, -⟩ := Prod.mk.inj h1
        rw [← e.1]
        exact ⟨by simp, by have := PyData.int.inj h3; simpa using this.symm⟩
      | succ i =>
        obtain ⟨hi, hk⟩ := ih (by rw [show fD l = _ from h2]; exact hr) i k x (by simpa using e)
        exact ⟨by simpa using hi, by simpa using hk⟩
section
variable {w : World} {A : Around} {E : Value → Shared → Prop} {s : Shared} {h₀ : Heap} {L : Addr} {m : Str → Option Value} {env : Env} {news : List (Addr × Obj)}
theorem comp_dict {elt tgt iter : Expr} {ifs : List Expr} {scope : Scope} {cl : List (Str × Addr)} {pos : Pos} {Fin : FinT} {d : Addr} {od : Obj} {l : List (Nat × Nat)}
    {T : List (Addr × Obj) → Value → Prop} {B : List (Addr × Obj) → Value → (Str → Option Value) → Prop} (Inv : Nat → List Value → List (Addr × Obj) → Array GenState → OsState → Prop)
    (hb : ∀ I, BindsAll w A h₀ L m env scope cl tgt I (fun _ => True) T B)
    (hl : (d, od) ∈ news) (hd : FoundL PG w od l) (lo : (d == sysModules) = false) (hz : l.length ≤ 1000) (hh : A.handled = none) (F : Fr h₀ L s.heap m) (N : News h₀ L s.heap news)
    (hcell : ∀ y ∈ scope.names, y.2 ≠ .cell) (hkind : scope.kind = .function)
    (hS : ∀ i ys nw g o, Inv i ys nw g o → (d, od) ∈ nw)
    (hT : ∀ i ys v D nw g o, (∃ (hi : i < l.length) (t : Tok), v = .int (l[i].1 : Int) t) → Inv i ys nw g o → T ((D, LCg.lst ys) :: nw) v)
    (hI : Inv 0 [] news s.gens s.os) (hturn : CTurns w A h₀ L m env elt ifs scope cl l.length (fun i v => ∃ (hi : i < l.length) (t : Tok), v = .int (l[i].1 : Int) t) B Inv)
    (hfin : ∀ D ys nw s', Inv l.length ys nw s'.gens s'.os → Fin D ys nw s') :
    CompOf w A E h₀ L m env elt tgt iter ifs scope cl pos Fin (.ref d) s := by
  intro RR hRR
  obtain ⟨kvs, ⟨es, ep, h1⟩, h2⟩ := hd
  have hn : kvs.length = l.length := by have := h2.length; simpa [fD] using this.symm
  have hat : ∀ h : Heap, h.get? d = some od → h.DictAt (intKind PG w) d kvs ep := fun h e => ⟨od, es, e, h1⟩
  have hlt : @LT.lt Nat _ d s.heap.objs.size := Heap.lt_size (N _ hl).1
  have hne : @Ne Nat d s.heap.objs.size := Nat.ne_of_lt hlt
  refine wpAny_pyIter_dict lo (hat _ (N _ hl).1) ?_
  have W := Walks.dictKeys (prog := PG) (w := w) (knd := intKind PG w) hh s.heap.objs.size d hne kvs ep
  have hP : ∀ i v, (∃ k x, kvs[i]? = some (k, x) ∧ (intKind PG w).is k v = true) → ∃ (hi : i < l.length) (t : Tok), v = .int (l[i].1 : Int) t := by
    rintro i v ⟨k, x, e, hk⟩
    obtain ⟨hi, rfl⟩ := flat_at h2 i k x e
    refine ⟨hi, ?_⟩
    exact Value.isInt_shape hk
  refine comp_block (S := fun nw => (d, od) ∈ nw) (Li := fun _ => True) (T := T) (B := B) Inv W (by rw [sizeLine_eq, hn]; (first | lia | omega)) (fun i h st => by obtain ⟨o, e, _⟩ := st.1; exact ⟨o, e⟩)
    (fun i h h' o nw st e e' _ N' hm => ⟨st.1.at fun o' q => by rw [e] at q; cases q; exact e', hat _ (N' _ hm).1⟩) hcell hkind ⟨⟨_, Heap.get?_push_size _ rfl, rfl, rfl⟩, hat _ (Heap.get?_push_of_some _ (N _ hl).1)⟩ (fun b hb => ?_)
    (F.push _) (N.grown fun b o e => Heap.get?_push_of_some _ e) (Nat.ne_of_lt F.ns.lt) (next_is_new F) (fun p hp => Nat.ne_of_lt (Heap.lt_size (N p hp).1)) (fun i ys D nw g o h => .tail _ (hS i ys nw g o h))
    (fun i h st => trivial) (hb _) (fun i ys v D nw g o _ hp hI => hT i ys v D nw g o (hP i v hp) hI) hI (fun i ys v s I oI C oC D m₂ nw E hi hy hp => hturn i ys v s I oI C oC D m₂ nw E (hn ▸ hi) hy (hP i v hp)) fun D C s' oC m₂ ys nw F' N' hC off ne hI' => hRR D C s' oC m₂ ys nw F' N' hC off ne (hfin D ys nw s' (hn ▸ hI'))
  show b < (s.heap.push _).objs.size
  rw [Heap.size_push]
  rcases List.mem_cons.mp hb with rfl | hb
  · exact Nat.lt_succ_self _
  · rw [List.mem_singleton.mp hb]; exact Nat.lt_succ_of_lt hlt
end
end
section
open PySem PySem.Spec PySem.Calls PySem.W PyProof.Rows
set_option maxRecDepth 100000
set_option maxHeartbeats 400000
theorem row_free {q : Str} (hq : 47 ∉ q.cps.toList) (n : Nat) : 47 ∉ (rowStr q n).cps.toList := by
  intro h
  unfold rowStr at h
  rw [txt_join] at h
  rcases join_mem h with h | ⟨x, hx, h⟩
  · revert h; decide +kernel
  · rw [List.eq_of_mem_replicate hx, cps_app] at h
    rcases List.mem_append.mp h with h | h
    · revert h; decide +kernel
    · exact hq h
theorem rowsL_rows (t : Nat) : ∀ rs : List Nat, (rowsL t rs).length = rowsN t rs
  | [] => rfl
  | r :: rs => by
    have ih := rowsL_rows t rs
    unfold rowsL rowsN rowsOf1 at *
    rw [List.flatMap_cons, List.length_append, ih, List.map_cons, List.sum_cons]
    simp
theorem page_count {q : Str} (hq : 47 ∉ q.cps.toList) (t : Nat) (rs : List Nat) : Txt.count (pageL q t rs) (Str.ofString "/") = ((rowsN t rs - 1 : Nat) : Int) := by
  rw [show Str.ofString "/" = (⟨#[47]⟩ : Str) from rfl, count_cnt]
  unfold pageL
  rw [txt_join, cnt_join _ 47 (by rw [show (Str.ofString "/").cps.toList = [47] from rfl, cnt_cons, cnt_nil]; simp) _ ?_, List.length_map, rowsL_rows]
  intro x hx
  obtain ⟨n, _, rfl⟩ := List.mem_map.1 hx
  exact row_free hq n
theorem rowsN_pos (t : Nat) {rs : List Nat} (h : rs ≠ []) : 1 ≤ rowsN t rs := by
  cases rs with
  | nil => exact absurd rfl h
  | cons r rs => unfold rowsN; rw [List.map_cons, List.sum_cons]; exact Nat.le_trans (Nat.le_add_left 1 (r / t)) (Nat.le_add_right _ _)
theorem sign_free : ∀ p ∈ signs, 47 ∉ p.1.cps.toList ∧ 47 ∉ p.2.cps.toList := by decide +kernel
noncomputable abbrev TABS : Str := ⟨#[9]⟩
noncomputable def leadTxt (rs : List Nat) (rest : Nat) (sg : Str) : Str := Txt.join (Str.ofString "") (rs.map fun (r : Nat) => Txt.mul SPC (r : Int) ++ TABS) ++ Txt.mul SPC (rest : Int) ++ sg
theorem mul_spc0 : ∀ r ∈ List.range 5, (Txt.mul SPC ((r : Nat) : Int)).cps.toList = List.replicate r 32 := by decide +kernel
theorem mul_quot0 : ∀ r ∈ List.range 5, Txt.mul (Str.ofString "\"") ((r : Nat) : Int) = qt r := by decide +kernel
theorem join_none : ∀ l : List Str, (Str.join (Str.ofString "") l).cps.toList = l.flatMap fun x => x.cps.toList
  | [] => rfl
  | [x] => by simp [Str.join]
  | x :: y :: r => by
    rw [join_two, join_none (y :: r), show (Str.ofString "").cps.toList = [] from rfl, List.append_nil]
    rfl
theorem allRuns_lt : ∀ rs ∈ allRuns, (∀ r ∈ rs, r < 5) ∧ rs.length ≤ 2 := by decide +kernel
theorem lead_pre {rs : List Nat} {rest : Nat} (hr : rs ∈ allRuns) (hq : rest < 5) (sg : Str) : (leadTxt rs rest sg).cps.toList = preOf rs rest ++ sg.cps.toList := by
  unfold leadTxt preOf
  rw [cps_app, cps_app, txt_join, join_none, mul_spc0 rest (List.mem_range.2 hq), List.flatMap_map]
  congr 2
  have h := (allRuns_lt rs hr).1
  clear hr
  induction rs with
  | nil => rfl
  | cons r rs ih =>
    rw [List.flatMap_cons, List.flatMap_cons, ih (fun x hx => h x (List.mem_cons_of_mem _ hx)), cps_app, mul_spc0 r (List.mem_range.2 (h r List.mem_cons_self))]
theorem names_sum (t : Nat) (rs : List Nat) : ((rs.map fun r => qt (r / t)).map fun x => x.length + 1).sum = rowsN t rs := by
  unfold rowsN
  rw [List.map_map]
  congr 1
  refine List.map_congr_left fun r _ => ?_
  show (qt (r / t)).length + 1 = _
  rw [qt_len]
theorem trim_zero (l : List Nat) : trim (l ++ [0]) = trim l := by
  unfold trim
  simp
theorem trim_keep (l : List Nat) {c : Nat} (h : c ≠ 0) : trim (l ++ [c]) = l ++ [c] := by
  unfold trim
  simp [h]
theorem trim_nil : trim [] = [] := rfl
end
section
open PySem PySem.Spec PySem.Calls PySem.W PyProof.Rows
set_option maxRecDepth 100000
set_option maxHeartbeats 0
theorem rows_S28_1 : True := by
  k_with_none
  w_top off
  k_with "zv" => ((repeat (first | (refine Eq.trans (ite_off ?_) ?_; focus decide) | (refine Eq.trans (upd_off ?_) ?_; focus decide))); first | with_reducible assumption | exact if_pos rfl | exact upd_on)
  k_with "zo" => (first | (first | lia | omega) | (simp; (first | lia | omega)))
  k_with "k_mem" => (assumption)
  k_with "k_ne" => (first | exact ne_mem1 (by with_reducible assumption) (by with_reducible assumption) | exact ne_mem2 (by with_reducible assumption) (by with_reducible assumption))
  k_with "wpAt" => ((fail_if_success ks_step "execs cons"); dsimp only; ks_step "execs cons"; refine ks_wpAt_execs_cons ?_)
  k_with "wpAt" => (ks_step "eval Call"; k_dflt (refine ks_wpAt_MethodCall ?_))
  k_with "k_ne" => (first | exact ne_mem1 (by with_reducible assumption) (by with_reducible assumption) | exact ne_mem1 (And.right (by with_reducible assumption)) (by with_reducible assumption) | exact ne_mem1 (And.right (And.right (by with_reducible assumption))) (by with_reducible assumption) | exact ne_mem1 (And.right (And.right (And.right (by with_reducible assumption)))) (by with_reducible assumption) | exact ne_mem1 (And.right (And.right (And.right (And.right (by with_reducible assumption))))) (by with_reducible assumption) | exact ne_mem1 (And.right (And.right (And.right (And.right (And.right (by with_reducible assumption)))))) (by with_reducible assumption) | exact ne_mem1 (And.right (And.right (And.right (And.right (And.right (And.right (by with_reducible assumption))))))) (by with_reducible assumption))
  k_with "k_mem" => (first | with_reducible assumption | with_reducible exact List.Mem.head _ | with_reducible exact List.Mem.tail _ (by assumption) | with_reducible exact List.Mem.tail _ (List.Mem.tail _ (by assumption)) | with_reducible exact List.Mem.tail _ (List.Mem.tail _ (List.Mem.tail _ (by assumption))))
  k_with "k_mem" => (first | with_reducible assumption | with_reducible exact List.Mem.head _ | (with_reducible refine List.mem_cons_of_mem _ ?_; k_mem))
  k_with "binaryOp Mult ref int" => (k_here; k_dflt (refine mul_K (by k_asm) (by k_asm) (by k_mem) (by assumption) (by (first | lia | omega)) ?_; k_whole; intro q' h' F' N' l1; (try k_lt l1); revert q' h' F' N' l1; intros))
  k_with "call builtin:list.extend" => (k_here; k_dflt (refine ext_K (by k_asm) (by k_asm) (by k_mem) (by k_updF) (by walk_at "zo") (by (walk_at "zo")) ?_; k_whole; intro h' n' F' N'; (try dsimp only at N'); revert h' n' F' N'; intros))
  k_with "loadName" => (refine wpAny_loadName_local (by exact rfl) (by exact rfl) (by exact Fr.ns (by assumption)) (by ((repeat (first | (refine Eq.trans (ite_off ?_) ?_; focus decide) | (refine Eq.trans (upd_off ?_) ?_; focus decide))); first | with_reducible assumption | exact if_pos rfl | exact upd_on)) ?_; k_whole)
  k_with "subscriptTail" => (refine HoldK.of ?_)
  k_with "subscriptTail" => (k_here; (with_reducible show wpAny _ _ (subscriptTail _ _ (Value.ref _) (Value.int _ _)) _ _ _); k_dflt (refine get_Kneg (by k_asm) (by k_mem) (by decide) (by (first | lia | omega)) (by decide) (by assumption) ?_ (by with_unfolding_all rfl); k_whole))
  k_with "subscriptTail" => (k_here; (with_reducible show wpAny _ _ (subscriptTail _ _ (Value.ref _) (Value.int _ _)) _ _ _); k_dflt (refine get_K (by k_asm) (by k_mem) (by (first | lia | omega)) (by (first | lia | omega)) (by assumption) ?_ (by with_unfolding_all rfl); k_whole))
  k_with "call builtin:len" => (k_here; (with_reducible show wpAny _ _ (call (Value.builtin _) [Value.ref _]) _ _ _); k_dflt (refine len_K (by k_asm) (by k_mem) (by (first | lia | omega)) ?_; k_whole))
  k_with "call type:tuple" => (k_here; (with_reducible show wpAny _ _ (call (Value.type _) [Value.ref _]) _ _ _); k_dflt (refine tup_K (by k_asm) (by k_asm) (by k_mem) (by (first | lia | omega)) ?_; k_whole; intros))
  k_with "compareOp NotEq ref ref" => (k_here; k_dflt (first | (refine ints_neY (by k_asm) (by k_mem) (by assumption) (by k_mem) (by assumption) (by ktr_units) ?_; k_whole) | (refine ints_neN (by k_asm) (by k_mem) (by assumption) (by k_mem) (by ktr_units) ?_; k_whole)))
  k_with "call builtin:list.pop" => (k_here; (with_reducible show wpAny _ _ (call (Value.builtin _) [Value.ref _]) _ _ _); k_dflt (refine pop_K (by k_asm) (by k_asm) (by assumption) (by k_updF) (by (first | lia | omega)) ?_; k_whole; intros))
  k_with "exec While" => (refine While_go ?_)
  k_with "eval ListComp" => (k_here; k_dflt (refine ListComp_G (F₀ := by k_asm) (by with_unfolding_all rfl) (by rfl) (by decide) ?_))
  k_with "exec Assign cons ListComp" => (k_here; k_dflt (refine Assign_ListComp_G (F₀ := by k_asm) (by rfl) (by with_unfolding_all rfl) (by with_unfolding_all rfl) (by rfl) (by decide) (by rfl) (by rfl) ?_))
  k_with "eval Name" => (k_here; k_dflt (first | (refine nameX_K (by k_asm) (by k_asm) (by k_asm) (by k_is) ?_ (by rfl) (by rfl); k_whole) | (refine nameX_B (by k_asm) (by k_asm) (by k_asm) (by k_is) (by boot_fast) (by decide) ?_ (by rfl) (by rfl); k_whole)))
  k_with "eval Name" => ((first | ((with_reducible show wpAny _ _ (eval (Expr.Name _ _) (envOf _ _ _ _ _)) _ _ _); refine ld (by assumption) (by walk_at "zv") ?_) | ((with_reducible show wpAny _ _ (eval (Expr.Name _ _) (envOfC _ _ _ _ _)) _ _ _); refine ldC (by assumption) (by walk_at "zv") ?_)); k_whole)
  k_with "exec For" => (refine For_loop ?_ (by intro _; with_unfolding_all rfl))
  k_with "exec For Name Call cons nil" => (refine For_loop ?_ (by intro _; with_unfolding_all rfl))
  k_with "exec For Name Name cons nil" => (refine For_loop ?_ (by intro _; with_unfolding_all rfl))
  k_with "exec For Name Attribute cons nil" => (refine For_loop ?_ (by intro _; with_unfolding_all rfl))
  k_with "execs cons" => (first | (k_here; k_gentoks) | ((try (rename Flow → Shared → Prop => qq; clear qq)); (try (rename Value → Shared → Prop => qq; clear qq)); refine wpAny_execs_cons ?_; (try dsimp only); k_fold))
  k_with "subscriptTail Name Name ref int" => (k_extra "subscriptTail")
  k_with "subscriptTail Name Constant ref int" => (k_extra "subscriptTail")
  k_with "subscriptTail Name UnaryOp ref int" => (k_extra "subscriptTail")
  k_with "subscriptTail Name BinOp ref int" => (k_extra "subscriptTail")
  trivial
theorem runs_len0 : ∀ rs ∈ allRuns, rs.length ≤ 2 := by decide +kernel
theorem runs_len {rs : List Nat} (h : rs ∈ allRuns) : rs.length ≤ 2 := runs_len0 rs h
theorem pairsN_sum {N : Nat} {rs : List Nat} (hr : rs ∈ allRuns) (h0 : 1 ≤ N) (h1 : N ≤ 5) (hN : ∀ r ∈ rs, r < N) : (rowsN N rs : Int) - ((((List.range (N - 1)).map fun j => (N - 1 - j, rs.count (N - 1 - j))).map fun p => (p.2 : Int)).sum) = ((rs.count 0 : Nat) : Int) := by
  have hz := zero_plain hr h0 h1 hN
  rw [hz]
  have hc : N = 1 ∨ N = 2 ∨ N = 3 ∨ N = 4 ∨ N = 5 := by (first | lia | omega)
  rcases hc with rfl | rfl | rfl | rfl | rfl <;> simp [List.range_succ] <;> (first | lia | omega)
theorem range_cons_map (N : Nat) (f : Nat → Int) (h : 1 ≤ N) : (List.range N).map f = f 0 :: (List.range (N - 1)).map fun j => f (1 + j) := by
  obtain ⟨n, rfl⟩ : ∃ n, N = n + 1 := ⟨N - 1, by (first | lia | omega)⟩
  rw [List.range_succ_eq_map]
  simp [Nat.add_comm]
theorem get_Dt {w : World} {A : Around} {E : Value → Shared → Prop} {s : Shared} {h₀ : Heap} {L : Addr} {news : List (Addr × Obj)} {value slice : PySem.Expr} {d : Addr} {o : Obj} {l : List (Nat × Nat)} {k v : Nat} {u : Tok} {Q : Value → Shared → Prop} (N : News h₀ L s.heap news) (hm : (d, o) ∈ news) (hd : FoundL PG w o l) (hl : (k, v) ∈ l) (hn : (l.map (·.1)).Nodup)
    (h : ∀ t, Q (.int (v : Int) t) { s with toks := s.toks + 1 }) (hs : subscripted slice false (.ref d) (.int (k : Int) u) = operate [.ref d, .int (k : Int) u] (getItem (.ref d) (.int (k : Int) u)) := by with_unfolding_all rfl) : wpAny (model PG w) A (subscriptTail value slice (.ref d) (.int (k : Int) u)) Q E s := by
  obtain ⟨kvs, h1, _⟩ := id hd
  exact tail_any (Heap.dictOf_iff.mpr ⟨o, N.get hm, h1⟩).typeIs slot_dict_getitem.lookup (get_D N hm hd hl hn h) hs
noncomputable def pairsN (N : Nat) (rs : List Nat) (i : Nat) : List (Nat × Nat) := (List.range i).map fun j => (N - 1 - j, rs.count (N - 1 - j))
noncomputable def sumF (rs : List Nat) (t j : Nat) : Nat := ((List.range j).map fun j => (t + 1 + j) / t * rs.count (t + 1 + j)).sum
theorem sumF_succ (rs : List Nat) (t j : Nat) : sumF rs t (j + 1) = sumF rs t j + (t + 1 + j) / t * rs.count (t + 1 + j) := by
  simp [sumF, List.range_succ]
theorem pairsN_mem {N : Nat} {rs : List Nat} {i k : Nat} (h1 : N - 1 - i < k) (h2 : k < N) : (k, rs.count k) ∈ pairsN N rs i :=
  List.mem_map.mpr ⟨N - 1 - k, List.mem_range.mpr (by (first | lia | omega)), by rw [show N - 1 - (N - 1 - k) = k by (first | lia | omega)]⟩
theorem pairsN_fresh {N : Nat} {rs : List Nat} {i t : Nat} (h : t = N - 1 - i ∧ i < N - 1) : t ∉ (pairsN N rs i).map (·.1) := by
  intro hm
  obtain ⟨p, hp, e⟩ := List.mem_map.mp hm
  obtain ⟨j, hj, rfl⟩ := List.mem_map.mp hp
  have := List.mem_range.mp hj
  simp only at e
  (first | lia | omega)
theorem pairsN_succ (N : Nat) (rs : List Nat) (i : Nat) : pairsN N rs (i + 1) = pairsN N rs i ++ [(N - 1 - i, rs.count (N - 1 - i))] := by
  simp [pairsN, List.range_succ]
theorem pairsN_len (N : Nat) (rs : List Nat) (i : Nat) : (pairsN N rs i).length = i := by simp [pairsN]
theorem pairsN_nodup (N : Nat) (rs : List Nat) : ∀ i, i ≤ N - 1 → ((pairsN N rs i).map (·.1)).Nodup
  | 0, _ => by simp [pairsN]
  | i + 1, h => by
    rw [pairsN_succ, List.map_append, List.nodup_append]
    refine ⟨pairsN_nodup N rs i (by (first | lia | omega)), by simp, fun a ha b hb => ?_⟩
    rintro rfl
    simp at hb
    exact pairsN_fresh (t := a) ⟨hb, by (first | lia | omega)⟩ ha
theorem norm : ∀ {w : World} {loose : List Str} {mean : ExcName → Option Value} {mg mb : Str → Option Value} {dp un : Nat} {gd : Option (List Code)} {cn : Str} {cs : Scope} {a : Addr} {ccd : Value} {cl : List (Str × Addr)} {outer : List Env} {A₀ : Around} {base h₀ : Heap} {L : Addr} {m : Str → Option Value} {s : Shared} {Q E : Value → Shared → Prop} {news : List (Addr × Obj)} {l n N₁ rest : Nat} {vs : Array Value} {rs : List Nat}
  (B : Below A₀ base outer h₀) (F : Fr h₀ L s.heap m) (X : (fr.heap_1 w.params).In h₀) (N : News h₀ L s.heap news) (T : Top topProg loose mean mg mb h₀) (hk : cs.kind = .function) (hdp : dp + 12 < recursionLimit) (hun : un + 160 < cLine) (hl : (l, listOf vs n) ∈ news) (hN0 : 1 ≤ N₁) (hN5 : N₁ ≤ 5) (hvs : IntsL vs ((List.range N₁).map fun k => rowsN (k + 1) rs)) (hrs : rs ∈ allRuns) (hlt : ∀ r ∈ rs, r < N₁) (hrest : rest < 5) (hret : ∀ (Tn : Addr) (ws : Array Value) (s₁ : Shared), Fr h₀ L s₁.heap m → News h₀ L s₁.heap ((Tn, tupOf ws) :: news) → (∀ p ∈ news, @LT.lt Nat _ p.1 Tn) → IntsL ws (stOf rs rest).cnt → s₁.gens = s.gens → s₁.os = s.os → Q (.ref Tn) s₁),
  wpAny (model PySem.Challenge.rw_wu0100_01.row.prog w) (ktrTop dp un gd cn cs L a ccd cl outer) (call (.ref 325) [.ref l]) Q E s := by
  k_fill
  intro w loose mean mg mb dp un gd cn cs a ccd cl outer A₀ base h₀ L m s Q E news l n N₁ rest vs rs B F X N T hk hdp hun hl hN0 hN5 hvs hrs hlt hrest hret
  refine wpAny_call ?_
  k_dflt (refine' code_defC ?k1 ?k2 ?k3 ?k4 ?k5 ?kA ?kF ?kK ?k6 ?k7 ?k8 ?k9 ?kB ?kD ?_ ?c2 ?c3 ?c4; (case kA => exact rfl); (case kF => exact rfl); (case kK => first | exact rfl | assumption); (case k1 => k_asm); (case k2 => k_asm); (case k3 => k_asm); (case k4 => k_asm); (case k5 => k_asm); (case k6 => k_is); (case k7 => k_is); (case k8 => ktr_room); (case k9 => exact BindsTo.of_eq rfl); (case kB => exact rfl); (case kD => decide +kernel); (case c2 => exact rfl); (case c3 => exact rfl); (case c4 => exact rfl); k_whole; intro g' L' h' tk' cells' FG' F' N' Y' B' X' T' l1; (have hoff := off0 l1); (try k_lt l1); k_cells Y'; (try simp only [List.cons_append, List.nil_append] at N'); (try dsimp only); (try k_lift B'); (try k_fold))
  have hz : vs.size = N₁ := by rw [hvs.1]; simp
  have hvx : ∀ k, k < N₁ → ∃ tk, vs[k]? = some (.int (rowsN (k + 1) rs : Int) tk) := by
    intro k hk
    obtain ⟨tk, h⟩ := hvs.2 k (by simpa using hk)
    exact ⟨tk, by rw [h]; simp⟩
  obtain ⟨kT, hlast⟩ : ∃ tk, vs[((-1 : Int) + (vs.size : Int)).toNat]? = some (.int (rowsN N₁ rs : Int) tk) := by
    obtain ⟨tk, h⟩ := hvx (N₁ - 1) (by (first | lia | omega))
    refine ⟨tk, ?_⟩
    rw [hz, show ((-1 : Int) + (N₁ : Int)).toNat = N₁ - 1 by (first | lia | omega), h]
    simp [show N₁ - 1 + 1 = N₁ by (first | lia | omega)]
  obtain ⟨M0', f1, F0⟩ := fr_gen (P := fun M => M (Str.ofString "counts") = some (.ref l)) F' rfl
  clear F'
  rename_i oc0 dc0
  have e0 : oc0.data = .cell none := dc0
  clear dc0
  k_steps
  rename Obj.IsDictOf (intKind _ _) _ [] => hi0
  rename PyProof.V.FlatPairs PyData.int [] [] => fi0
  rename _ ∧ AllLt _ _ => l1d
  rename (_ == sysModules) = false => hsys
  rename_i h01 d h02 od hs0 fs0 h03 oc F5 N5 hoc tk0 tk5 h6 tk6 t6 u6 v6 A3 A2 A1 A0
  have hallt := allLt_all _ l1d.2
  have hdL : @LT.lt Nat _ (L' + 1) d := l1d.1
  have hsys' : (d == sysModules) = false := hsys
  clear hs0 fs0 F5 N5 hsys
  refine' loop_range (L := L') (n := N₁ - 1) (I := fun i rest m₁ g o => ∃ od', rest = (d, od') :: (L' + 1, oc) :: news ∧ FoundL PG w od' (pairsN N₁ rs i) ∧ m₁ (Str.ofString "counts") = some (.ref l) ∧ m₁ (Str.ofString "tabs") = some (.int (rowsN N₁ rs : Int) kT) ∧ g = s.gens ∧ o = s.os) A3 (size_dec (by (first | lia | omega))) (small_dec (k := N₁ - 1) (by (first | lia | omega)) (by (first | lia | omega))) rfl rfl rfl rfl A2 A1 ?h0 ?hb ?hQ
  case h0 =>
    refine ⟨od, rfl, ⟨[], hi0, fi0⟩, ?_, ?_, rfl, rfl⟩
    all_goals ((repeat (refine Eq.trans (if_neg ?_) ?_; focus decide)); first | exact if_pos rfl | assumption)
  case hb =>
    clear A3 A2 A1 A0 hi0 fi0
    intro it i rest m₁ s₁ tkI o' E' hit hi hc hI1 hne F7 N7
    try k_fold
    obtain ⟨od', hrest, hfo, p1, p2, hg, hos⟩ := hI1
    subst hrest
    obtain ⟨t, ht⟩ : ∃ t, t = N₁ - 1 - i := ⟨_, rfl⟩
    have ht1 : 1 ≤ t := by (first | lia | omega)
    have htN : t < N₁ := by (first | lia | omega)
    rw [show ((vs.size : Int) - 1 + (i : Int) * -1) = (t : Int) by (first | lia | omega)] at F7
    obtain ⟨kc, hcx⟩ : ∃ tk, vs[((t : Int) - 1).toNat]? = some (.int (rowsN t rs : Int) tk) := by
      obtain ⟨tk, h⟩ := hvx (t - 1) (by (first | lia | omega))
      refine ⟨tk, ?_⟩
      rw [show ((t : Int) - 1).toNat = t - 1 by (first | lia | omega), h, show t - 1 + 1 = t by (first | lia | omega)]
    have q1 : @Ne Nat d it := hne _ (.head _)
    have q2 : @Ne Nat (L' + 1) it := hne _ (.tail _ (.head _))
    clear hit hc
    k_steps
    rename_i h08 F8 N8 tk1 tk2 h09 tk3 t9 u9 v9 A3 A2 A1 A0
    have hnodup := pairsN_nodup N₁ rs i (by (first | lia | omega))
    refine' loop_range (L := L') (n := i) (I := fun j rest m₂ g o => rest = (it, o') :: (d, od') :: (L' + 1, oc) :: news ∧ (∃ km, m₂ (Str.ofString "many") = some (.int ((rowsN t rs : Int) - (rowsN N₁ rs : Int) - (sumF rs t j : Int)) km)) ∧ m₂ (Str.ofString "counts") = some (.ref l) ∧ m₂ (Str.ofString "tabs") = some (.int (rowsN N₁ rs : Int) kT) ∧ m₂ (Str.ofString "t") = some (.int (t : Int) tkI) ∧ g = s.gens ∧ o = s.os) A3 (size_ab (by (first | lia | omega))) (small_ab (n := i) (by (first | lia | omega)) (by (first | lia | omega)) (by (first | lia | omega))) rfl rfl rfl rfl A2 A1 ?i0 ?ib ?iQ
    case i0 =>
      have e0 : ((rowsN t rs : Int) - (rowsN N₁ rs : Int) - (sumF rs t 0 : Int)) = (rowsN t rs : Int) - (rowsN N₁ rs : Int) := by simp [sumF]
      refine ⟨rfl, ⟨_, Eq.trans (if_pos rfl) (congrArg (fun z => some (Value.int z _)) e0.symm)⟩, ?_, ?_, ?_, hg, hos⟩
      all_goals ((repeat (refine Eq.trans (if_neg ?_) ?_; focus decide)); first | exact if_pos rfl | assumption)
    case ib =>
      clear A3 A2 A1 A0 F8 N8
      intro it2 j rest m₂ s₂ tk4 o2 E2 hit2 hj hc2 hI1 hne2 F7 N7
      try k_fold
      obtain ⟨hrest, ⟨km, p3⟩, p4, p5, p6, hg2, hos2⟩ := hI1
      subst hrest
      rw [show ((t : Int) + 1 + (j : Int) * 1) = ((t + 1 + j : Nat) : Int) by (first | lia | omega)] at F7
      have hkey : (t + 1 + j, rs.count (t + 1 + j)) ∈ pairsN N₁ rs i := pairsN_mem (by (first | lia | omega)) (by (first | lia | omega))
      have hfd : ((t + 1 + j : Nat) : Int).fdiv (t : Int) = (((t + 1 + j) / t : Nat) : Int) := by
        rw [Int.fdiv_eq_ediv_of_nonneg _ (by (first | lia | omega))]; norm_cast
      clear hit2 hc2
      k_steps
      refine get_Dt N7 (.tail _ (.tail _ (.head _))) hfo hkey hnodup (fun k9 => ?_)
      have hb1 : (t + 1 + j) / t ≤ 5 := Nat.le_trans (Nat.div_le_self _ _) (by (first | lia | omega))
      have hb2 : rs.count (t + 1 + j) ≤ 2 := Nat.le_trans List.count_le_length (runs_len hrs)
      rw [hfd]
      k_whole
      k_steps
      rename Fr _ _ _ _ => F9
      rename News _ _ _ _ => N9
      refine ⟨_, _, .head _, ⟨dropL_head hne2, ⟨_, Eq.trans (if_pos rfl) (congrArg (fun z => some (Value.int z _)) ?_)⟩, ?_, ?_, ?_, hg2, hos2⟩, F9, N9⟩
      · rw [sumF_succ]; push_cast; (first | lia | omega)
      all_goals ((repeat (refine Eq.trans (if_neg ?_) ?_; focus decide)); assumption)
    case iQ =>
      clear A3 A2 A1 A0 F8 N8
      intro rest m₂ s₂ hI1 F7 N7
      try k_fold
      obtain ⟨hrest, ⟨km, p3⟩, p4, p5, p6, hg2, hos2⟩ := hI1
      subst hrest
      have hfp := found_plain hrs hN0 hN5 hlt ht1 htN
      rw [show N₁ - (t + 1) = i by (first | lia | omega)] at hfp
      have hmany : ((rowsN t rs : Int) - (rowsN N₁ rs : Int) - (sumF rs t i : Int)) = ((rs.count t : Nat) : Int) := by
        unfold sumF; (first | lia | omega)
      rw [hmany] at p3
      have hfresh : t ∉ (pairsN N₁ rs i).map (·.1) := pairsN_fresh ⟨ht, hi⟩
      try dsimp only
      k_steps
      refine set_D (own := [(it, o')]) F7 N7 (fun p hp => by cases List.mem_singleton.mp hp; exact Ne.symm q1) (fun p hp => ?_) hfo hfresh (by rw [pairsN_len]; (first | lia | omega)) fun h9 od9 F9 N9 hfo9 => ?_
      · rcases List.mem_cons.mp hp with rfl | hp
        · exact Nat.ne_of_lt hdL
        · exact Nat.ne_of_lt (hallt p hp)
      · try dsimp only
        k_steps
        refine ⟨_, m₂, .head _, ⟨od9, dropL_head fun y hy => ?_, ?_, p4, p5, hg2, hos2⟩, F9, N9⟩
        · rcases List.mem_cons.mp hy with rfl | hy
          · exact q1
          · exact hne y (.tail _ hy)
        · rw [pairsN_succ, ← ht]; exact hfo9
  case hQ =>
    clear A3 A2 A1 A0 hi0 fi0
    intro rest m₁ s₁ hI1 F7 N7
    try k_fold
    obtain ⟨od', hrest, hfo, p1, p2, hg, hos⟩ := hI1
    subst hrest
    have hnodup := pairsN_nodup N₁ rs (N₁ - 1) (Nat.le_refl _)
    have hlenp := pairsN_len N₁ rs (N₁ - 1)
    try dsimp only
    k_steps
    refine comp_dict (B := fun _ v m₃ => m₃ (Str.ofString "run") = some v) (fun i ys nw g o => nw = (d, od') :: (L' + 1, oc) :: news ∧ IntsAre ys (((pairsN N₁ rs (N₁ - 1)).take i).map fun p => (p.2 : Int)) ∧ g = s₁.gens ∧ o = s₁.os) (fun I => binds_name (by rfl) (by rfl)) (.head _) hfo hsys' (by (first | lia | omega)) (by rfl) F7 N7 (by decide) (by rfl) (fun i ys nw g o h => by rw [h.1]; exact .head _) (fun i ys v D nw g o _ _ => trivial) ⟨rfl, .nil, rfl, rfl⟩ (cturns_nil ?_) ?_
    · intro i ys v s₂ I oI C oC D m₂ nw E2 hi hys hP hI1 hB F8 N8 hC off ne3
      try k_fold
      obtain ⟨hnw, hys2, hg2, hos2⟩ := hI1
      subst hnw
      obtain ⟨hi', tk9, rfl⟩ := hP
      have hkey : ((pairsN N₁ rs (N₁ - 1))[i].1, (pairsN N₁ rs (N₁ - 1))[i].2) ∈ pairsN N₁ rs (N₁ - 1) := List.getElem_mem hi'
      k_steps
      refine get_Dt N8 (.tail _ (.tail _ (.tail _ (.head _)))) hfo hkey hnodup (fun k9 => ?_)
      refine ⟨_, F8, N8, off, rfl, ?_, hg2, hos2⟩
      rw [List.take_add_one, List.getElem?_eq_getElem hi', List.map_append]
      exact intsAre_snoc hys2
    · intro D ys nw s₂ hI1
      try k_fold
      obtain ⟨hnw, hys2, hg2, hos2⟩ := hI1
      subst hnw
      rw [List.take_length] at hys2
      unfold FinGE
      intro h8 F8 N8 hD
      k_steps
      rename _ ∧ _ ∧ _ ∧ AllLt _ _ => l1r
      rename_i h12 tr t12 r h13 h14 F9 N9 t13 tk14 h15 tk15 t16 u16 v16 A3 A2 A1 A0
      rw [show ((rowsN N₁ rs : Int) - (List.map (fun p : Nat × Nat => (p.2 : Int)) (pairsN N₁ rs (N₁ - 1))).sum) = ((rs.count 0 : Nat) : Int) from pairsN_sum hrs hN0 hN5 hlt] at A1
      obtain ⟨r1, r2, r3, r4⟩ := l1r
      have r5 := allLt_all _ r4
      refine comp_range (B := fun _ v m₃ => m₃ (Str.ofString "run") = some v) (n := N₁ - 1) (fun i ys' nw g o => nw = (r, listOf #[.int ((rs.count 0 : Nat) : Int) tr] 0) :: (D, LCg.lst ys) :: (d, od') :: (L' + 1, oc) :: news ∧ IntsAre ys' ((List.range i).map fun j => ((rs.count (1 + j) : Nat) : Int)) ∧ g = s.gens ∧ o = s.os) (fun I => binds_name (by rfl) (by rfl)) A3 (size_ab (by (first | lia | omega))) (small_ab (n := N₁ - 1) (by (first | lia | omega)) (by (first | lia | omega)) (by (first | lia | omega))) (by (first | lia | omega)) (by rfl) A2 A1 (by decide) (by rfl) (fun i ys v D nw g o _ _ _ => trivial) ⟨rfl, .nil, hg2.trans hg, hos2.trans hos⟩ (cturns_nil ?_) ?_
      · clear A3 A2 A1 A0
        intro i ys' v s₃ I oI C oC D' m₂ nw E2 hi hys hP hI1 hB F8 N8 hC off ne3
        try k_fold
        obtain ⟨hnw, hys3, hg3, hos3⟩ := hI1
        subst hnw
        obtain ⟨tk9, rfl⟩ := hP
        rw [show ((1 : Int) + (i : Int)) = ((1 + i : Nat) : Int) by (first | lia | omega)] at hB
        have hkey : (1 + i, rs.count (1 + i)) ∈ pairsN N₁ rs (N₁ - 1) := pairsN_mem (by (first | lia | omega)) (by (first | lia | omega))
        k_steps
        refine get_Dt N8 (.tail _ (.tail _ (.tail _ (.tail _ (.tail _ (.head _)))))) hfo hkey hnodup (fun k9 => ?_)
        refine ⟨_, by assumption, N8, off, rfl, ?_, hg3, hos3⟩
        rw [List.range_succ, List.map_append]
        exact intsAre_snoc hys3
      · clear A3 A2 A1 A0
        intro D2 ys2 nw s₃ hI1
        try k_fold
        obtain ⟨hnw, hys3, hg3, hos3⟩ := hI1
        subst hnw
        unfold FinGE
        intro h8 F8 N8 hD2
        rw [show LCg.lst ys2 = listOf ys2.toArray ys2.length from rfl] at N8
        have hz2 : ys2.length = N₁ - 1 := by rw [intsAre_len hys3]; simp
        k_steps
        have hrD : ∀ p ∈ (D, LCg.lst ys) :: (d, od') :: (L' + 1, oc) :: news, p.1 ≠ r := fun p hp => by
          rcases List.mem_cons.mp hp with rfl | hp
          · exact Nat.ne_of_lt r1
          · rcases List.mem_cons.mp hp with rfl | hp
            · exact Nat.ne_of_lt r2
            · rcases List.mem_cons.mp hp with rfl | hp
              · exact Nat.ne_of_lt r3
              · exact Nat.ne_of_lt (r5 p hp)
        have hU : UpdF r (listOf #[.int ((rs.count 0 : Nat) : Int) tr] 0) ((D2, listOf ys2.toArray ys2.length) :: (r, listOf #[.int ((rs.count 0 : Nat) : Int) tr] 0) :: (D, LCg.lst ys) :: (d, od') :: (L' + 1, oc) :: news) _ := UpdF.tail (Ne.symm (hD2 _ (.head _))) (UpdF.head hrD)
        refine ext_K F8 N8 (.head _) hU (by simp) (by rw [List.size_toArray]; (first | lia | omega)) fun h10 n10 F10 N10 => ?_
        have hrow : IntsL (((#[.int ((rs.count 0 : Nat) : Int) tr] : Array Value).toList ++ ys2.toArray.toList).toArray) ((List.range N₁).map fun r => rs.count r) := by
          have h1 : IntsAre ((#[.int ((rs.count 0 : Nat) : Int) tr] : Array Value).toList ++ ys2.toArray.toList) (((List.range N₁).map fun r => rs.count r).map fun (k : Nat) => (k : Int)) := by
            rw [List.map_map]
            have := range_cons_map N₁ (fun r => ((rs.count r : Nat) : Int)) hN0
            rw [show (List.range N₁).map ((fun (k : Nat) => (k : Int)) ∘ fun r => rs.count r) = _ from this]
            exact .cons _ _ hys3
          exact intsAre_L h1
        have N11 : News g' L' h10 ((r, listOf (((#[.int ((rs.count 0 : Nat) : Int) tr] : Array Value).toList ++ ys2.toArray.toList).toArray) n10) :: (L' + 1, oc) :: news) := cb_drop N10 (by intro p hp; rcases List.mem_cons.mp hp with rfl | hp; exact .tail _ (.head _); exact .tail _ (.tail _ (.tail _ (.tail _ hp))))
        have hrE : ∀ p ∈ (L' + 1, oc) :: news, p.1 ≠ r := fun p hp => hrD p (.tail _ (.tail _ hp))
        have hcnt := cnt_plain hrs hrest hN0 hN5 hlt
        clear N8 F8 N10 hU hrD hD2 hys2 hys3 hz2 hD
        revert N11 F10 hrow
        generalize (((#[.int ((rs.count 0 : Nat) : Int) tr] : Array Value).toList ++ ys2.toArray.toList).toArray) = w0
        intro F10 hrow N11
        k_steps
        refine while_core (fun k nw m₁ g o => ∃ ws c ks, nw = (r, listOf ws c) :: (L' + 1, oc) :: news ∧ IntsL ws ks ∧ trim ks = trim ((List.range N₁).map fun r => rs.count r) ∧ ks.length = k ∧ k ≤ 5 ∧ m₁ (Str.ofString "row") = some (.ref r) ∧ g = s.gens ∧ o = s.os) N₁ F10 N11 ⟨w0, n10, _, rfl, hrow, rfl, by simp, hN5, if_pos rfl, hg3, hos3⟩ ?_
        clear F10 hrow N11
        intro k nw m₂ s₄ E3 hI1 F8 N8
        try k_fold
        obtain ⟨ws, c, ks, hnw, hws, htr, hkl, hk5, p3, hg4, hos4⟩ := hI1
        subst hnw
        have hwz : ws.size = ks.length := hws.1
        have hwzL : ws.size ≤ 5 := by (first | lia | omega)
        have r6 : AllLt r ((L' + 1, oc) :: news) := ⟨r3, r4⟩
        clear hnodup hlenp
        rcases snoc_cases ks with rfl | ⟨ks0, x, rfl⟩
        · have htr' := htr.symm.trans trim_nil
          k_steps
          rename Fr _ _ _ _ => F12
          rename News _ _ _ _ => N12
          rename_i hlt12 Tc12 kX12
          exact hret _ ws _ F12 (cb_drop N12 (by intro p hp; rcases List.mem_cons.mp hp with rfl | hp; exact .head _; exact .tail _ (.tail _ (.tail _ (.tail _ hp))))) (fun p hp => hlt12 p (.tail _ (.tail _ (.tail _ hp)))) (by rw [hcnt, htr']; exact hws) hg4 hos4
        · have hneq : ks0 ++ [x] ≠ [] := by simp
          obtain ⟨tkx, hx⟩ : ∃ tk, ws[((-1 : Int) + (ws.size : Int)).toNat]? = some (.int (x : Int) tk) := by
            obtain ⟨tk, h⟩ := hws.2 ks0.length (by simp)
            refine ⟨tk, ?_⟩
            rw [hwz, List.length_append, List.length_singleton, show ((-1 : Int) + ((ks0.length + 1 : Nat) : Int)).toNat = ks0.length by (first | lia | omega), h]
            simp
          have hks5 : ks0.length + 1 ≤ 5 := by simp at hkl; (first | lia | omega)
          have hwz5 : ws.size ≤ 5 := by rw [hwz]; simpa using hks5
          have hwz1 : 1 ≤ ws.size := by rw [hwz]; simp
          k_steps
          · rename IntsL _ ks0 => hi12
            rename (x : Int) = 0 => hx0
            rename Fr _ _ _ _ => F12
            rename News _ _ _ _ => N12
            have hx1 : x = 0 := by (first | lia | omega)
            subst hx1
            refine ⟨ks0.length, _, _, by rw [← hkl]; simp, ⟨_, _, ks0, rfl, hi12, (trim_zero ks0).symm.trans htr, rfl, by (first | lia | omega), p3, hg4, hos4⟩, F12, cb_drop N12 (fun p hp => .tail _ hp)⟩
          · rename ¬ (x : Int) = 0 => hx0
            have hx1 : x ≠ 0 := by (first | lia | omega)
            have htr' := htr.symm.trans (trim_keep ks0 hx1)
            rename Fr _ _ _ _ => F12
            rename News _ _ _ _ => N12
            rename_i hlt12 Tc12 kX12
            exact hret _ ws _ F12 (cb_drop N12 (by intro p hp; rcases List.mem_cons.mp hp with rfl | hp; exact .head _; exact .tail _ (.tail _ (.tail _ (.tail _ hp))))) (fun p hp => hlt12 p (.tail _ (.tail _ (.tail _ hp)))) (by rw [hcnt, htr']; exact hws) hg4 hos4
end
section
open PySem PySem.Spec PySem.Calls PySem.W PyProof.Rows
set_option maxRecDepth 100000
set_option maxHeartbeats 400000
/-- the end of a turn of a loop whose target is the cell c -/
noncomputable def NextC (h₀ : Heap) (L : Addr) (it : Addr) (o' : Obj) (c : Addr) (I : List (Addr × Obj) → (Str → Option Value) → Array GenState → OsState → Prop) (s₂ : Shared) : Prop :=
  ∃ news₂ m₂ oc v, (∀ y ∈ news₂, y.1 ≠ it ∧ y.1 ≠ c) ∧ oc.data = .cell v ∧ I news₂ m₂ s₂.gens s₂.os ∧ Fr h₀ L s₂.heap m₂ ∧ News h₀ L s₂.heap ((it, o') :: (c, oc) :: news₂)
section
variable {w : World} {A : Around} {E : Value → Shared → Prop} {s : Shared} {h₀ : Heap} {L : Addr} {m : Str → Option Value} {news : List (Addr × Obj)} {env : Env}
theorem loop_rangeC {x : Str} {px : Pos} {body : List Stmt} {n : Nat} {r cc : Addr} {oc : Obj} {v₀ : Option Value} {a b c : Int} {t u v : Tok} {Q : Flow → Shared → Prop} (I : Nat → List (Addr × Obj) → (Str → Option Value) → Array GenState → OsState → Prop)
    (hr : IsRange s.heap r a b c t u v) (hn : Builtin.Range.rangeSize a b c = (n : Int)) (hsm : Builtin.Range.small a b c = true) (hh : A.handled = none) (hLe : env.locals = L) (hk : env.scope.kind = .function) (hl : env.kindOf x = some .cell) (hc : env.cells.lookup x = some cc) (F : Fr h₀ L s.heap m) (N : News h₀ L s.heap ((cc, oc) :: news)) (hoc : oc.data = .cell v₀) (hoff : ∀ y ∈ news, y.1 ≠ cc)
    (hI0 : I 0 news m s.gens s.os)
    (hbody : ∀ it i rest m₁ s₁ tk o' oc' E', (∀ y ∈ (cc, oc) :: news, @LT.lt Nat _ y.1 it) → i < n → I i rest m₁ s₁.gens s₁.os → (∀ y ∈ rest, y.1 ≠ it ∧ y.1 ≠ cc) → @Ne Nat it cc → oc'.data = .cell (some (.int (a + i * c) tk)) → Fr h₀ L s₁.heap m₁ → News h₀ L s₁.heap ((it, o') :: (cc, oc') :: rest) →
      wpAny (model PG w) A (execs body env) (fun f s₂ => match f with
        | .next | .cont => NextC h₀ L it o' cc (I (i + 1)) s₂
        | .brk => Q .next s₂
        | .ret v => Q (.ret v) s₂) E' s₁)
    (hQ : ∀ rest m₁ s₁ oc' v', I n rest m₁ s₁.gens s₁.os → oc'.data = .cell v' → (∀ y ∈ rest, y.1 ≠ cc) → Fr h₀ L s₁.heap m₁ → News h₀ L s₁.heap ((cc, oc') :: rest) → Q .next s₁) :
    LoopOf w A E env (.Name x px) body [] Q (.ref r) s := by
  subst hLe
  unfold LoopOf
  refine wpAny_pyIter_range hr hsm ?_
  rw [hn]
  obtain ⟨it, hit⟩ : ∃ it, it = s.heap.objs.size := ⟨_, rfl⟩
  have F1 := F.push ({ cls := .type "range_iterator", data := .fields #[rawInt a, rawInt (n : Int), rawInt c] } : Obj)
  have N1 := N.push F ({ cls := .type "range_iterator", data := .fields #[rawInt a, rawInt (n : Int), rawInt c] } : Obj)
  have hlt : ∀ y ∈ (cc, oc) :: news, @LT.lt Nat _ y.1 it := fun y hy => by rw [hit]; exact Heap.lt_size (N y hy).1
  have hcit : @Ne Nat it cc := Nat.ne_of_gt (hlt _ (.head _))
  have W : Walks PG w A it [it] [it] n (fun i v => ∃ t, v = .int (a + i * c) t) (fun i h => IsRangeIter h it (a + i * c) ((n : Int) - i) c) := Walks.range hh it a c n
  have st0 : IsRangeIter (s.heap.push { cls := .type "range_iterator", data := .fields #[rawInt a, rawInt (n : Int), rawInt c] }) it (a + ((0 : Nat) : Int) * c) ((n : Int) - ((0 : Nat) : Int)) c := by
    rw [hit]; simpa [IsRangeIter] using Heap.get?_push_size _ rfl
  rw [← hit] at N1 ⊢
  have hSt : ∀ i (h h' : Heap) o, IsRangeIter h it (a + i * c) ((n : Int) - i) c → h.get? it = some o → h'.get? it = some o → IsRangeIter h' it (a + i * c) ((n : Int) - i) c := fun i h h' o st e e' => by
    have st' : h.get? it = some _ := st
    show h'.get? it = some _
    rw [e', ← e]; exact st'
  have hitL : @Ne Nat it env.locals := by rw [hit]; exact Nat.ne_of_gt F.ns.lt
  have hit0 : h₀.get? it = none := by rw [hit]; exact next_is_new F
  have hp : (env.scope.kind == .class || (env.scope.kind == .module && env.locals != env.globals)) = false := by rw [hk]; rfl
  refine codeAny_forLoop (fun k s' => ∃ i rest m' o' oc' v', i ≤ n ∧ k = n - i ∧ I i rest m' s'.gens s'.os ∧ (∀ y ∈ rest, y.1 ≠ it ∧ y.1 ≠ cc) ∧ IsRangeIter s'.heap it (a + i * c) ((n : Int) - i) c ∧ oc'.data = .cell v' ∧ News h₀ env.locals s'.heap ((it, o') :: (cc, oc') :: rest) ∧ Fr h₀ env.locals s'.heap m') (fun k s' hI => ?_) n ⟨0, news, m, _, oc, v₀, Nat.zero_le _, rfl, hI0, fun y hy => ⟨Nat.ne_of_lt (hlt y (.tail _ hy)), hoff y hy⟩, st0, hoc, N1, F1⟩ (fun _ => rfl)
  obtain ⟨i, rest, m', o', oc', v', hiN, rfl, hI1, hne, hst', hd', N', F'⟩ := hI
  have offi : ∀ p ∈ (cc, oc') :: rest, p.1 ≠ it := fun p hp => by
    rcases List.mem_cons.mp hp with rfl | hp
    · exact Ne.symm hcit
    · exact (hne p hp).1
  by_cases hlt' : i < n
  · refine W.item i _ _ _ hlt' hst' fun v h' tk hP hst2 hkp => ?_
    obtain ⟨o2, ho2⟩ : ∃ o2, h'.get? it = some o2 := ⟨_, hst2⟩
    have F2 : Fr h₀ env.locals h' m' := fr_oneBut F' hkp hitL hit0
    have N2 : News h₀ env.locals h' ((cc, oc') :: rest) := news_oneBut (fun p hp => N' p (.tail _ hp)) hkp offi
    have zc := N2 _ (.head _)
    refine wpAny_assign_Name (wpAny_storeName_cell hk hl hc ⟨oc', zc.1, hd'⟩ fun h3 hc3 hs3 => ?_)
    obtain ⟨oc3, ec3, hd3⟩ := hc3
    obtain ⟨tk', rfl⟩ := hP
    have F3 : Fr h₀ env.locals h3 m' := F2.change hs3 zc.2.1 zc.2.2
    have e3 : h3.get? it = some o2 := hs3.extBut _ _ hcit ho2
    have N3 : News h₀ env.locals h3 ((it, o2) :: (cc, oc3) :: rest) := fun p hp => by
      rcases List.mem_cons.mp hp with rfl | hp
      · exact ⟨e3, hitL, hit0⟩
      · rcases List.mem_cons.mp hp with rfl | hp
        · exact ⟨ec3, zc.2⟩
        · exact ⟨hs3.extBut _ _ (hne p hp).2 (N2 p (.tail _ hp)).1, (N2 p (.tail _ hp)).2⟩
    refine wpAny_mono (hbody it i rest m' { s' with heap := h3, toks := tk } tk' o2 oc3 _ hlt hlt' hI1 hne hcit hd3 F3 N3) (fun f s₃ hf => ?_) fun _ _ z => z
    cases f with
    | brk => exact hf
    | ret v => exact hf
    | next | cont =>
      obtain ⟨news₂, m₂, oc4, v4, hne4, hd4, hI2, F4, N4⟩ := hf
      exact ⟨n - (i + 1), by omega, i + 1, news₂, m₂, o2, oc4, v4, hlt', rfl, hI2, hne4, hSt _ h' _ o2 hst2 ho2 (N4 _ (.head _)).1, hd4, N4, F4⟩
  · have e : i = n := by omega
    subst e
    refine W.done _ _ _ hst' fun h' tk hkp => ?_
    refine wpAny_execs_nil ?_
    exact hQ rest m' _ oc' v' hI1 hd' (fun y hy => (hne y hy).2) (fr_oneBut F' hkp hitL hit0) (news_oneBut (fun p hp => N' p (.tail _ hp)) hkp offi)
end
end
section
open PySem PySem.Spec PySem.Calls PySem.W PyProof.Rows
set_option maxRecDepth 100000
set_option maxHeartbeats 400000
noncomputable def InnerL (h₀ : Heap) (L : Addr) (m : Str → Option Value) (news : List (Addr × Obj)) (ks : List Nat) (s : Shared) (xv : Value) (s₂ : Shared) : Prop :=
  ∃ q ws n', xv = .ref q ∧ Fr h₀ L s₂.heap m ∧ News h₀ L s₂.heap ((q, listOf ws n') :: news) ∧ (∀ p ∈ news, @Ne Nat p.1 q) ∧ IntsL ws ks ∧ s₂.gens = s.gens ∧ s₂.os = s.os
noncomputable def NestOf (w : World) (A : Around) (E : Value → Shared → Prop) (h₀ : Heap) (L : Addr) (m : Str → Option Value) (env : Env) (elt t1 i1 t2 i2 : Expr) (scope : Scope) (cl : List (Str × Addr)) (pos : Pos) (Fin : FinT) (xv : Value) (s : Shared) : Prop :=
  ∀ RR, RROk h₀ L m Fin RR → wpAny (model PG w) A (pyIter xv) (fun it s₂ => wpAny (model PG w) A (newList []) (fun acc s₃ => wpAny (model PG w) A (newFunctionEnv scope env.globals cl [] env.qual none .none (some env)) (fun cenv s₄ =>
      codeAny (model PG w) A (.compStart (.ListComp elt [⟨t1, i1, [], 0⟩, ⟨t2, i2, [], 0⟩] scope pos) 0 it acc { cenv with scope := relabel scope env }) (RR acc cenv.locals) s₄) E s₃) E s₂) E s
section
variable {w : World} {A : Around} {E : Value → Shared → Prop} {R : Result → Shared → Prop} {s : Shared} {h₀ : Heap} {L : Addr} {m : Str → Option Value} {env : Env} {news : List (Addr × Obj)}
theorem ListComp_N {elt t1 i1 t2 i2 : Expr} {scope : Scope} {cl : List (Str × Addr)} {pos : Pos} {Q : Value → Shared → Prop} (F₀ : Fr h₀ L s.heap m)
    (hclos : closureFor scope env = pure cl) (hkind : scope.kind = .function)
    (hnames : ∀ y ∈ scope.names, y.2 = .local → scope.names.lookup y.1 = some .local)
    (h : wpAny (model PG w) A (eval i1 env) (NestOf w A E h₀ L m env elt t1 i1 t2 i2 scope cl pos (FinGE h₀ L m Q)) E s)
    (hs : ∀ x, foldedSetIterable i1 env x = pure x := by intro _; rfl) :
    wpAny (model PG w) A (eval (.ListComp elt [⟨t1, i1, [], 0⟩, ⟨t2, i2, [], 0⟩] scope pos) env) Q E s := by
  rw [eval_ListComp]
  exact wpAny_comprehension_free (use := none) rfl hs hclos hkind hnames (wpAny_mono h (fun xv s₁ h₁ => h₁ _ rr_E) fun _ _ e => e)
theorem start_in {elt t1 i1 t2 i2 : Expr} {scope : Scope} {pos : Pos} {it acc : Value}
    (h0 : codeAny (model PG w) A (.compLoop (.ListComp elt [⟨t1, i1, [], 0⟩, ⟨t2, i2, [], 0⟩] scope pos) 1 it acc env) R s)
    (h : wpAny (model PG w) A (pyIter it) (fun it' s' => codeAny (model PG w) A (.compLoop (.ListComp elt [⟨t1, i1, [], 0⟩, ⟨t2, i2, [], 0⟩] scope pos) 1 it' acc env) R s') (notedBy (model PG w) A env fun x s' => R (.error x) s') s) :
    codeAny (model PG w) A (.compStart (.ListComp elt [⟨t1, i1, [], 0⟩, ⟨t2, i2, [], 0⟩] scope pos) 1 it acc env) R s := by
  refine codeAny_of_tree ?_
  show wpAny _ _ ((compStart (.ListComp elt [⟨t1, i1, [], 0⟩, ⟨t2, i2, [], 0⟩] scope pos) 1 it acc env).onRaise (fun x => do noteFrame x env; standAt theWindowsPlace)) _ _ s
  refine wpAny_notedAt ?_
  unfold compStart
  show wpAny _ _ (ask >>= _) _ _ s
  refine wpAny_bind (wpAny_askSetting (wpAny_ite ?_))
  split
  · exact wpAny_pure ⟨rfl, h0⟩
  · refine wpAny_bind (wpAny_rule ?_)
    refine wpAny_bind (wpAny_standAt ?_)
    exact wpAny_bind (wpAny_mono h (fun _ _ h' => wpAny_pure ⟨rfl, h'⟩) fun _ _ x => x)
theorem flat_succ (ks : Nat → List Nat) (i : Nat) : (List.range (i + 1)).flatMap ks = (List.range i).flatMap ks ++ ks i := by
  rw [List.range_succ, List.flatMap_append]
  simp
theorem flat_len {ks : Nat → List Nat} (h : ∀ i, (ks i).length ≤ 100) : ∀ i, ((List.range i).flatMap ks).length ≤ i * 100
  | 0 => by simp
  | i + 1 => by
    rw [flat_succ, List.length_append]
    have h1 := flat_len h i
    have h2 := h i
    (first | lia | omega)
theorem nest_list {x x₁ x₂ : Str} {px px' p₁ p₂ tp : Pos} {kk : Nat} {i1 i2 : Expr} {scope : Scope} {cl : List (Str × Addr)} {pos : Pos} {Fin : FinT} {ld : Addr} {vs : Array Value} {c : Nat} (ks : Nat → List Nat)
    (hx : scope.names.lookup x = some .local) (hx₁ : scope.names.lookup x₁ = some .local) (hx₂ : scope.names.lookup x₂ = some .local) (hne : x₁ ≠ x₂) (hcell : ∀ y ∈ scope.names, y.2 ≠ .cell) (hkind : scope.kind = .function) (hh : A.handled = none) (hdbg : (x == ("__debug__" : Str)) = false)
    (hl : (ld, listOf vs c) ∈ news) (hz : vs.size ≤ 100) (F : Fr h₀ L s.heap m) (N : News h₀ L s.heap news)
    (hT : ∀ i v, i < vs.size → vs[i]? = some v → ∃ v₁ v₂, Tup2 news v v₁ v₂) (hks : ∀ i, (ks i).length ≤ 100)
    (hi2 : ∀ i v v₁ v₂ m₂ s₁ I oI C oC D oD E', i < vs.size → vs[i]? = some v → Tup2 ((D, oD) :: news) v v₁ v₂ → m₂ x₁ = some v₁ → m₂ x₂ = some v₂ → Fr h₀ L s₁.heap m → News h₀ L s₁.heap ((I, oI) :: (C, oC) :: (D, oD) :: news) → LCg.NsObj oC m₂ → s₁.gens = s.gens → s₁.os = s.os →
      wpAny (model PG w) A (eval i2 (compEnvC scope cl C env)) (InnerL h₀ L m ((I, oI) :: (C, oC) :: (D, oD) :: news) (ks i) s) E' s₁)
    (hs2 : ∀ env x, foldedSetIterable i2 env x = pure x)
    (hfin : ∀ D ys s', IntsAre ys (((List.range vs.size).flatMap ks).map fun (k : Nat) => (k : Int)) → s'.gens = s.gens → s'.os = s.os → Fin D ys news s') :
    NestOf w A E h₀ L m env (.Name x px) (.Tuple [.Name x₁ p₁, .Name x₂ p₂] kk tp) i1 (.Name x px') i2 scope cl pos Fin (.ref ld) s := by
  intro RR hRR
  have hlst : s.heap.IsList ld vs := ⟨_, (N _ hl).1, rfl, _, rfl⟩
  have hlt : @LT.lt Nat _ ld s.heap.objs.size := Heap.lt_size (N _ hl).1
  refine wpAny_pyIter_list hlst ?_
  obtain ⟨I, hI⟩ : ∃ I, I = s.heap.objs.size := ⟨_, rfl⟩
  obtain ⟨g0, hg0⟩ : ∃ g, g = s.heap.push { cls := .type "list_iterator", data := .fields #[.ref ld, .int 0 0] } := ⟨_, rfl⟩
  rw [← hg0, ← hI]
  have F1 : Fr h₀ L g0 m := by rw [hg0]; exact F.push _
  have N1 : News h₀ L g0 news := by rw [hg0]; exact N.grown fun b o e => Heap.get?_push_of_some _ e
  have gI : g0.IsListIter I ld 0 := by rw [hg0, hI]; exact ⟨_, Heap.get?_push_size _ rfl, rfl, rfl⟩
  have gl : g0.IsList ld vs := by rw [hg0]; exact hlst.push _
  have hI0 : h₀.get? I = none := by rw [hI]; exact next_is_new F
  have hIL : L ≠ I := by rw [hI]; exact Nat.ne_of_lt F.ns.lt
  have offI : ∀ p ∈ news, @Ne Nat p.1 I := fun p hp => by rw [hI]; exact Nat.ne_of_lt (Heap.lt_size (N p hp).1)
  have hIs : @LT.lt Nat _ I g0.objs.size := by obtain ⟨o, e, _⟩ := gI; exact Heap.lt_size e
  have hldI : @Ne Nat ld I := by rw [hI]; exact Nat.ne_of_lt hlt
  have hlds : @LT.lt Nat _ ld g0.objs.size := by obtain ⟨o, e, _⟩ := gl; exact Heap.lt_size e
  clear hg0 hI hlst hlt
  have W : Walks PG w A I [I, ld] [I] vs.size (fun i v => vs[i]? = some v) (fun i h => h.IsListIter I ld i ∧ h.IsList ld vs) := Walks.list hh I ld hldI vs
  refine wpAny_newObj_type (wpAny_newFunctionEnv hcell (by intro y hy; simp at hy) (fun h₁ hns₁ hsb₁ => ?_) hkind)
  dsimp only at hns₁ hsb₁ ⊢
  generalize hH2 : g0.push { cls := .type "list", dict := none, data := .seq ([] : List Value).toArray } = H2 at hns₁ hsb₁ ⊢
  have hC : H2.objs.size = g0.objs.size + 1 := by rw [← hH2, Heap.size_push]
  have hDC : @Ne Nat H2.objs.size g0.objs.size := by rw [hC]; exact Nat.succ_ne_self _
  have below : ∀ b, b < g0.objs.size → @Ne Nat b H2.objs.size ∧ @Ne Nat b g0.objs.size := fun b hb => ⟨by rw [hC]; exact Nat.ne_of_lt (Nat.lt_succ_of_lt hb), Nat.ne_of_lt hb⟩
  have old : ∀ b o, g0.get? b = some o → h₁.get? b = some o := fun b o e => hsb₁.extBut b o (below b (Heap.lt_size e)).1 (Heap.get?_push_of_some _ (hH2 ▸ Heap.get?_push_of_some _ e))
  have hacc : h₁.get? g0.objs.size = some (LCg.lst []) := hsb₁.extBut _ _ (Ne.symm hDC) (Heap.get?_push_of_some _ (hH2 ▸ Heap.get?_push_size _ rfl))
  have fresh₀ : ∀ a, g0.objs.size ≤ a → h₀.get? a = none := fun a ha => Heap.get?_none_of_le (Nat.le_trans (Nat.le_of_lt (Nat.lt_of_le_of_lt F1.above F1.ns.lt)) ha)
  have hD₀ := fresh₀ _ (Nat.le_refl g0.objs.size)
  have hC₀ := fresh₀ H2.objs.size (by rw [hC]; exact Nat.le_succ _)
  have hL := below L F1.ns.lt
  obtain ⟨oI, heI, hoI1, hoI2⟩ := gI
  have hI' := below I hIs
  obtain ⟨oC, heC, hoC⟩ := LCg.ns_obj hns₁
  obtain ⟨D, hD⟩ : ∃ D, D = g0.objs.size := ⟨_, rfl⟩
  obtain ⟨C, hCe⟩ : ∃ C, C = H2.objs.size := ⟨_, rfl⟩
  rw [← hD] at hacc hD₀ hDC
  have offD : ∀ p ∈ news, @Ne Nat p.1 C ∧ @Ne Nat p.1 D := fun p hp => by rw [hD, hCe]; exact below _ (Heap.lt_size (N1 p hp).1)
  have ne3 : @Ne Nat I C ∧ @Ne Nat I D ∧ @Ne Nat C D := by rw [hCe]; exact ⟨hI'.1, by rw [hD]; exact hI'.2, hDC⟩
  have hLC : @Ne Nat L C := by rw [hCe]; exact hL.1
  have hLD : @Ne Nat L D := by rw [hD]; exact hL.2
  rw [← hCe] at heC hC₀
  have hld3 : @Ne Nat ld C := by rw [hCe]; exact (below _ hlds).1
  have loop : ∀ s₃ : Shared, s₃ = { s with heap := h₁, toks := s.toks + ([] : List (Str × Value)).length } →
      codeAny (model PG w) A (.compLoop (.ListComp (.Name x px) [⟨.Tuple [.Name x₁ p₁, .Name x₂ p₂] kk tp, i1, [], 0⟩, ⟨.Name x px', i2, [], 0⟩] scope pos) 0 (.ref I) (.ref D) (compEnvC scope cl C env)) (RR (.ref D) C) s₃ := by
    rintro s₃ rfl
    refine comp_walk (m := m) (oI := oI) (C := C) (T := fun nw v => ∃ v₁ v₂, Tup2 nw v v₁ v₂) (B := fun nw v m₃ => ∃ v₁ v₂, Tup2 nw v v₁ v₂ ∧ m₃ x₁ = some v₁ ∧ m₃ x₂ = some v₂) turn_out (fun nw => (ld, listOf vs c) ∈ nw)
      (fun i nw g o => ∃ ys, nw = (D, LCg.lst ys) :: news ∧ IntsAre ys (((List.range i).flatMap ks).map fun (k : Nat) => (k : Int)) ∧ g = s.gens ∧ o = s.os) W (fun i h st => by obtain ⟨o, e, _⟩ := st.1; exact ⟨o, e⟩)
      (fun i h h' o nw st e e' _ N' hm => ⟨by obtain ⟨o', q, r⟩ := st.1; rw [e] at q; cases q; exact ⟨o, e', r⟩, ⟨_, (N' _ hm).1, rfl, _, rfl⟩⟩) hIL hI0
      (fun i nw g o ⟨ys, e, _⟩ => e ▸ .tail _ hl) (fun i hi => binds_two hkind hx₁ hx₂ hne hh C _ (fun h h' st k => W.frame _ _ _ st fun b hb o e => k b o ?_ e) fun h st => ⟨_, _, st.1⟩)
      (fun i v nw g o hi hP ⟨ys, e, _⟩ => ?_) (Ne.symm ne3.1) ?_ ?_ ?_ ⟨⟨oI, old _ _ heI, hoI1, hoI2⟩, ?_⟩
    · rcases List.mem_cons.mp hb with rfl | hb
      · exact ne3.1
      · rw [List.mem_singleton.mp hb]; exact hld3
    · obtain ⟨v₁, v₂, t, nt, e1, hm⟩ := hT i v hi hP
      exact ⟨v₁, v₂, t, nt, e1, e ▸ .tail _ hm⟩
    · intro i v s₁ oI1 oC1 m₂ nw E1 hi hP ⟨ys, e, hys, hg1, ho1⟩ ⟨v₁, v₂, ht2, hm1, hm2⟩ F2 N2 hC2 off2
      subst e
      refine wpAny_tests_nil ?_
      simp only [if_true]
      refine tail_in (hs2 _) (wpAny_mono (hi2 i v v₁ v₂ m₂ s₁ I oI1 C oC1 D (LCg.lst ys) _ hi hP ht2 hm1 hm2 F2 N2 hC2 hg1 ho1) (fun xv s₂ h2 => ?_) fun _ _ x => x)
      obtain ⟨q, ws, n', rfl, F3, N3, offq, hws, hg2, ho2⟩ := h2
      have hq : s₂.heap.IsList q ws := ⟨_, (N3 _ (.head _)).1, rfl, _, rfl⟩
      have hqlt : @LT.lt Nat _ q s₂.heap.objs.size := Heap.lt_size (N3 _ (.head _)).1
      refine wpAny_pyIter_list hq ?_
      have W2 : Walks PG w A s₂.heap.objs.size [s₂.heap.objs.size, q] [s₂.heap.objs.size] ws.size (fun i v => ws[i]? = some v) (fun i h => h.IsListIter s₂.heap.objs.size q i ∧ h.IsList q ws) := Walks.list hh _ q (Nat.ne_of_lt hqlt) ws
      have up : ∀ b o, s₂.heap.get? b = some o → (s₂.heap.push { cls := .type "list_iterator", data := .fields #[.ref q, .int 0 0] }).get? b = some o := fun b o e => Heap.get?_push_of_some _ e
      have st2 : (s₂.heap.push { cls := .type "list_iterator", data := .fields #[.ref q, .int 0 0] }).IsListIter s₂.heap.objs.size q 0 ∧ (s₂.heap.push { cls := .type "list_iterator", data := .fields #[.ref q, .int 0 0] }).IsList q ws := ⟨⟨_, Heap.get?_push_size _ rfl, rfl, rfl⟩, hq.push _⟩
      have hI2 : ∀ p ∈ (q, listOf ws n') :: (I, oI1) :: (C, oC1) :: (D, LCg.lst ys) :: news, @Ne Nat p.1 s₂.heap.objs.size := fun p hp => Nat.ne_of_lt (Heap.lt_size (N3 p hp).1)
      have inner : codeAny (model PG w) A (.compLoop (.ListComp (.Name x px) [⟨.Tuple [.Name x₁ p₁, .Name x₂ p₂] kk tp, i1, [], 0⟩, ⟨.Name x px', i2, [], 0⟩] scope pos) 1 (.ref s₂.heap.objs.size) (.ref D) (compEnvC scope cl C env))
          (fun r s' => match r with | .ok _ => TurnEnd h₀ L m I oI1 C (fun nw g o => ∃ ys, nw = (D, LCg.lst ys) :: news ∧ IntsAre ys (((List.range (i + 1)).flatMap ks).map fun (k : Nat) => (k : Int)) ∧ g = s.gens ∧ o = s.os) s' | .error e => cameBackBy (model PG w) A (compEnvC scope cl C env) E1 e s') { s₂ with heap := s₂.heap.push { cls := .type "list_iterator", data := .fields #[.ref q, .int 0 0] } } := by
        refine comp_walk (m := m) (oI := ({ cls := .type "list_iterator", data := .fields #[.ref q, .int 0 0] } : Obj)) (C := C) (T := fun _ _ => True) (B := fun _ v m₃ => m₃ x = some v) turn_in (fun nw => (q, listOf ws n') ∈ nw)
          (fun j nw g o => ∃ ys', nw = (I, oI1) :: (D, LCg.lst ys') :: (q, listOf ws n') :: news ∧ IntsAre ys' ((((List.range i).flatMap ks) ++ (ks i).take j).map fun (k : Nat) => (k : Int)) ∧ g = s.gens ∧ o = s.os) W2 (fun i h st => by obtain ⟨o, e, _⟩ := st.1; exact ⟨o, e⟩)
          (fun i h h' o nw st e e' _ N' hm => ⟨by obtain ⟨o', q, r⟩ := st.1; rw [e] at q; cases q; exact ⟨o, e', r⟩, ⟨_, (N' _ hm).1, rfl, _, rfl⟩⟩) (Nat.ne_of_lt F3.ns.lt) (next_is_new F3)
          (fun i nw g o ⟨ys, e, _⟩ => e ▸ .tail _ (.tail _ (.head _))) (fun j hj => binds_name (Li := fun _ => True) hkind hx C _ (fun h h' st k => W2.frame _ _ _ st fun b hb o e => k b o ?_ e) fun _ _ => trivial)
          (fun _ _ _ _ _ _ _ _ => trivial) (hI2 _ (.tail _ (.tail _ (.head _)))) ?_ ?_ ?_ st2
        · rcases List.mem_cons.mp hb with rfl | hb
          · exact Ne.symm (hI2 _ (.tail _ (.tail _ (.head _))))
          · rw [List.mem_singleton.mp hb]; exact Ne.symm (offq _ (.tail _ (.head _)))
        · intro j v' s₅ oI5 oC5 m₅ nw5 E5 hj hP5 ⟨ys', e5, hys5, hg5, ho5⟩ hB5 F5 N5 hC5 off5
          subst e5
          refine wpAny_tests_nil ?_
          simp only [if_true]
          have zC := N5 (C, oC5) (.tail _ (.head _))
          have hj' : j < (ks i).length := by rw [← hws.1]; exact hj
          obtain ⟨tk7, e7⟩ := hws.2 j hj'
          rw [e7] at hP5
          cases hP5
          refine tail_app (wpAny_Name (wpAny_loadName_local (by simp [compEnvC, relabel, hkind]) (lookup_relabel_local hx) (hC5.ns zC.1) hB5 ?_) hdbg)
          have zD := N5 (D, LCg.lst ys') (.tail _ (.tail _ (.tail _ (.head _))))
          have hsz : ys'.toArray.size ≤ sizeLine := by
            rw [List.size_toArray, intsAre_len hys5, List.length_map, List.length_append, sizeLine_eq, List.length_take]
            have h1 := flat_len hks i
            have h2 := hks i
            (first | lia | omega)
          refine append_at (hsz := hsz) zD.1 fun h₆ hs₆ hD₆ => ?_
          have n1 : ∀ p ∈ (q, listOf ws n') :: news, @Ne Nat p.1 D := fun p hp => by
            rcases List.mem_cons.mp hp with rfl | hp
            · exact Ne.symm (offq _ (.tail _ (.tail _ (.head _))))
            · exact (offD p hp).2
          refine ⟨oC5, m₅, (I, oI1) :: (D, LCg.lst (ys' ++ [.int ((ks i)[j] : Int) tk7])) :: (q, listOf ws n') :: news, F5.change hs₆ zD.2.1 zD.2.2, fun p hp => ?_, hC5, fun p hp => ?_, ys' ++ [_], rfl, ?_, hg5, ho5⟩
          · rcases List.mem_cons.mp hp with rfl | hp
            · have z := N5 _ (.head _)
              exact ⟨hs₆.extBut _ _ (Ne.symm (hI2 (D, LCg.lst ys) (.tail _ (.tail _ (.tail _ (.head _)))))) z.1, z.2⟩
            · rcases List.mem_cons.mp hp with rfl | hp
              · exact ⟨hs₆.extBut _ _ ne3.2.2 zC.1, zC.2⟩
              · rcases List.mem_cons.mp hp with rfl | hp
                · have z := N5 (I, oI1) (.tail _ (.tail _ (.head _)))
                  exact ⟨hs₆.extBut _ _ ne3.2.1 z.1, z.2⟩
                · rcases List.mem_cons.mp hp with rfl | hp
                  · exact ⟨hD₆.trans (congrArg some (LCg.lst_snoc ys' _)), zD.2⟩
                  · have z := N5 p (.tail _ (.tail _ (.tail _ (.tail _ hp))))
                    exact ⟨hs₆.extBut _ _ (n1 p hp) z.1, z.2⟩
          · rcases List.mem_cons.mp hp with rfl | hp
            · exact off5 (I, oI1) (.head _)
            · rcases List.mem_cons.mp hp with rfl | hp
              · exact off5 (D, LCg.lst ys') (.tail _ (.head _))
              · exact off5 p (.tail _ (.tail _ hp))
          · rw [List.take_add_one, List.getElem?_eq_getElem hj', ← List.append_assoc, List.map_append]
            exact intsAre_snoc hys5
        · intro h' tk s₅ oC5 m₅ nw5 hs F5 N5 hC5 off5 ⟨ys', e5, hys5, hg5, ho5⟩
          subst e5
          rw [hs]
          refine ⟨oC5, m₅, (D, LCg.lst ys') :: news, F5, fun p hp => ?_, hC5, fun p hp => ?_, ys', rfl, ?_, hg5, ho5⟩
          · rcases List.mem_cons.mp hp with rfl | hp
            · exact N5 (I, oI1) (.tail _ (.head _))
            · rcases List.mem_cons.mp hp with rfl | hp
              · exact N5 _ (.head _)
              · rcases List.mem_cons.mp hp with rfl | hp
                · exact N5 _ (.tail _ (.tail _ (.head _)))
                · exact N5 _ (.tail _ (.tail _ (.tail _ (.tail _ hp))))
          · rcases List.mem_cons.mp hp with rfl | hp
            · exact ⟨Ne.symm ne3.2.1, Ne.symm ne3.2.2⟩
            · exact ⟨offI p hp, (offD p hp).1⟩
          · rw [flat_succ]
            rw [List.take_of_length_le (by rw [hws.1]; exact Nat.le_refl _)] at hys5
            exact hys5
        · refine ⟨oC1, m₂, (I, oI1) :: (D, LCg.lst ys) :: (q, listOf ws n') :: news, F3.push _, fun p hp => ?_, hC2, fun p hp => ?_, ys, rfl, by simpa using hys, hg2, ho2⟩
          · have N4 := N3.grown up
            rcases List.mem_cons.mp hp with rfl | hp
            · exact ⟨Heap.get?_push_size _ rfl, Ne.symm (Nat.ne_of_lt F3.ns.lt), next_is_new F3⟩
            · rcases List.mem_cons.mp hp with rfl | hp
              · exact N4 _ (.tail _ (.tail _ (.head _)))
              · rcases List.mem_cons.mp hp with rfl | hp
                · exact N4 _ (.tail _ (.head _))
                · rcases List.mem_cons.mp hp with rfl | hp
                  · exact N4 _ (.tail _ (.tail _ (.tail _ (.head _))))
                  · rcases List.mem_cons.mp hp with rfl | hp
                    · exact N4 _ (.head _)
                    · exact N4 _ (.tail _ (.tail _ (.tail _ (.tail _ hp))))
          · rcases List.mem_cons.mp hp with rfl | hp
            · exact ⟨hI2 (I, oI1) (.tail _ (.head _)), ne3.1⟩
            · rcases List.mem_cons.mp hp with rfl | hp
              · exact ⟨hI2 (D, LCg.lst ys) (.tail _ (.tail _ (.tail _ (.head _)))), Ne.symm ne3.2.2⟩
              · rcases List.mem_cons.mp hp with rfl | hp
                · exact ⟨hI2 (q, listOf ws n') (.head _), Ne.symm (offq (C, oC1) (.tail _ (.head _)))⟩
                · exact ⟨hI2 p (.tail _ (.tail _ (.tail _ (.tail _ hp)))), (offD p hp).1⟩
      exact start_in inner (W2.self 0 _ _ _ st2 inner)
    · intro h' tk s₁ oC' m₂ nw hs F' N' hC' off' ⟨ys, e, hys, hg1, ho1⟩
      subst e
      rw [hs]
      refine hRR _ _ _ oC' m₂ ys news F' N' hC' offD ne3.2.2 (hfin D ys _ hys hg1 ho1)
    · refine ⟨oC, _, (D, LCg.lst []) :: news, F1.keeps old, fun p hp => ?_, hoC, fun p hp => ?_, [], rfl, .nil, rfl, rfl⟩
      · rcases List.mem_cons.mp hp with rfl | hp
        · exact ⟨old _ _ heI, Ne.symm hIL, hI0⟩
        · rcases List.mem_cons.mp hp with rfl | hp
          · exact ⟨heC, Ne.symm hLC, hC₀⟩
          · rcases List.mem_cons.mp hp with rfl | hp
            · exact ⟨hacc, Ne.symm hLD, hD₀⟩
            · exact ⟨old _ _ (N1 p hp).1, (N1 p hp).2⟩
      · rcases List.mem_cons.mp hp with rfl | hp
        · exact ⟨Ne.symm ne3.2.1, Ne.symm ne3.2.2⟩
        · exact ⟨offI p hp, (offD p hp).1⟩
    · exact (let ⟨o, e, r⟩ := gl; ⟨o, old _ _ e, r⟩)
  rw [← hD, ← hCe]
  exact codeAny_compStart_list (loop _ rfl) (W.self 0 _ _ _ ⟨⟨oI, old _ _ heI, hoI1, hoI2⟩, let ⟨o, e, r⟩ := gl; ⟨o, old _ _ e, r⟩⟩ (loop _ rfl))
end
end
section
open PySem PySem.Spec PySem.Calls PySem.W PyProof.Rows
set_option maxRecDepth 100000
set_option maxHeartbeats 0
theorem lead_facts0 : ∀ rs ∈ allRuns, ((rs.map fun (r : Nat) => Txt.mul SPC (r : Int) ++ TABS).map (·.length)).sum + (rs.map fun (r : Nat) => Txt.mul SPC (r : Int) ++ TABS).length * 64 ≤ 1000 ∧ (Txt.join (Str.ofString "") (rs.map fun (r : Nat) => Txt.mul SPC (r : Int) ++ TABS)).length ≤ 100 := by decide +kernel
theorem spc_len : ∀ r ∈ List.range 5, (Txt.mul SPC ((r : Nat) : Int)).length ≤ 4 := by decide +kernel
theorem sign_last : ∀ p ∈ signs, ∃ z ∈ List.range 100, p.1.cps.toList = [z] ∧ z ≠ 32 ∧ z ≠ 9 := by decide +kernel
theorem norm_same {w : World} {A : Around} {E : Value → Shared → Prop} {s : Shared} {h₀ : Heap} {L : Addr} {news : List (Addr × Obj)} {T1 T1' T2 T2' : Addr} {ws ws' : Array Value} {l : List Nat} {b b' : Nat} {kb kb' : Tok} {Q : Value → Shared → Prop} (N : News h₀ L s.heap news) (m1 : (T1, tupOf #[.ref T2, .int (b : Int) kb]) ∈ news) (m2 : (T2, tupOf ws) ∈ news) (hw : IntsL ws l)
    (m1' : (T1', tupOf #[.ref T2', .int (b' : Int) kb']) ∈ news) (m2' : (T2', tupOf ws') ∈ news) (hw' : IntsL ws' l) (hb : b = b') (hu : A.units + 64 < cLine) (h : Q (.bool false) s) : wpAny (model PG w) A (compareOp .NotEq (.ref T1) (.ref T1')) Q E s := by
  subst hb
  have r1 : Reads s.heap (.ref T1) (dNorm ⟨0, b, 0, l⟩) [] := reads_tuple_at (N _ m1).1 rfl rfl (.cons (as := []) (reads_dT N m2 hw) (.cons (as := []) (.int _ _) .nil))
  have r2 : Reads s.heap (.ref T1') (dNorm ⟨0, b, 0, l⟩) [] := reads_tuple_at (N _ m1').1 rfl rfl (.cons (as := []) (reads_dT N m2' hw') (.cons (as := []) (.int _ _) .nil))
  refine ne_dataH r1 r2 (shaped_dNorm _) (shaped_dNorm _) hu ?_
  rw [eqv_dNorm]
  simpa using h
theorem strs_same {w : World} {A : Around} {E : Value → Shared → Prop} {s : Shared} {h₀ : Heap} {L : Addr} {news : List (Addr × Obj)} {D D' : Addr} {n n' : Nat} {ys ys' : List Value} {l : List Str} {Q : Value → Shared → Prop} (N : News h₀ L s.heap news) (m1 : (D, listOf ys.toArray n) ∈ news) (H : StrsAre ys l) (m2 : (D', listOf ys'.toArray n') ∈ news) (H' : StrsAre ys' l) (hok : ∀ x ∈ l, PyData.canLay0 (dS x) = true) (hu : A.units + 64 < cLine)
    (h : Q (.bool false) s) : wpAny (model PG w) A (compareOp .NotEq (.ref D) (.ref D')) Q E s :=
  strs_ne N m1 (by simpa using H) m2 (by simpa using H') hok hok hu (by simpa using h)
theorem trips_same {w : World} {A : Around} {E : Value → Shared → Prop} {s : Shared} {h₀ : Heap} {L : Addr} {news nw : List (Addr × Obj)} {D D' : Addr} {n n' : Nat} {vs vs' : Array Value} {l l' : List (Nat × Nat × Nat)} {Q : Value → Shared → Prop} (m1 : (D, listOf vs n) ∈ news) (N : News h₀ L s.heap news) (H : TripsL news vs l) (hs : ∀ y ∈ nw, y ∈ news) (m2 : (D', listOf vs' n') ∈ nw) (H' : TripsL nw vs' l') (e : l = l') (hu : A.units + 64 < cLine)
    (h : Q (.bool false) s) : wpAny (model PG w) A (compareOp .NotEq (.ref D) (.ref D')) Q E s :=
  trips_ne N m1 H (hs _ m2) (H'.mono hs) hu (by rw [decide_eq_true e]; exact h)
theorem trips_none {w : World} {A : Around} {E : Value → Shared → Prop} {s : Shared} {h₀ : Heap} {L : Addr} {news : List (Addr × Obj)} {D D' : Addr} {n n' : Nat} {vs : Array Value} {l : List (Nat × Nat × Nat)} {Q : Value → Shared → Prop} (N : News h₀ L s.heap news) (m2 : (D', listOf #[] n') ∈ news) (m1 : (D, listOf vs n) ∈ news) {nw : List (Addr × Obj)} (H : TripsL nw vs l) (hs : ∀ y ∈ nw, y ∈ news) {bb : Bool} (e : decide (l = []) = bb) (hu : A.units + 64 < cLine)
    (h : Q (.bool bb) s) : wpAny (model PG w) A (compareOp .Eq (.ref D) (.ref D')) Q E s :=
  trips_eq N m1 (H.mono hs) m2 .nil hu (e ▸ h)
theorem is_bb {w : World} {A : Around} {E : Value → Shared → Prop} {s : Shared} {b : Bool} {Q : Value → Shared → Prop} (h : Q (.bool true) s) : wpAny (model PG w) A (compareOp .Is (.bool b) (.bool b)) Q E s := is_bool (by simpa using h)
theorem isnot_bb {w : World} {A : Around} {E : Value → Shared → Prop} {s : Shared} {b : Bool} {Q : Value → Shared → Prop} (h : Q (.bool false) s) : wpAny (model PG w) A (compareOp .IsNot (.bool b) (.bool b)) Q E s := isnot_bool (by simpa using h)
theorem tab_swap {rs ss : List Nat} {q u : Nat} : ((tableL rs q ss u).filter (fun p => decide (p.2.1 ≤ p.2.2))).map (fun p => (p.1, p.2.2, p.2.1)) = (tableL ss u rs q).filter fun p => decide (p.2.2 ≤ p.2.1) := by
  have e : tableL ss u rs q = (tableL rs q ss u).map fun p => (p.1, p.2.2, p.2.1) := by
    unfold tableL
    rw [List.map_map, show topN ss u rs q = topN rs q ss u by unfold topN; rw [Nat.max_comm]]
    rfl
  rw [e, List.filter_map]
  rfl
theorem mulq_ok {n : Nat} (h : n < 5) : MulOk (Str.ofString "\"") (n : Int) := by
  have h5 : n = 0 ∨ n = 1 ∨ n = 2 ∨ n = 3 ∨ n = 4 := by (first | lia | omega)
  rcases h5 with rfl | rfl | rfl | rfl | rfl <;> exact ⟨by decide, by decide, by decide⟩
theorem pow_tm {tm : Nat} : ((2 : Int) ^ ((tm : Nat) : Int).toNat) = ((2 ^ tm : Nat) : Int) := by
  rw [Int.toNat_natCast]; norm_cast
theorem fdiv_tm {r tm : Nat} : ((r : Nat) : Int).fdiv ((2 : Int) ^ ((tm : Nat) : Int).toNat) = ((r / 2 ^ tm : Nat) : Int) := by
  rw [pow_tm, Int.fdiv_eq_ediv_of_nonneg _ (Int.natCast_nonneg _)]; norm_cast
theorem pow_le {tm : Nat} (h : tm < 3) : 1 ≤ 2 ^ tm ∧ 2 ^ tm ≤ 4 := by
  have h3 : tm = 0 ∨ tm = 1 ∨ tm = 2 := by (first | lia | omega)
  rcases h3 with rfl | rfl | rfl <;> decide
theorem strsAre_at : ∀ {vs : List Value} {ns : List Str}, StrsAre vs ns → vs.length = ns.length ∧ ∀ i (h : i < ns.length), ∃ t, vs[i]? = some (.str ns[i] t)
  | _, _, .nil => ⟨rfl, fun i h => by cases h⟩
  | _, _, .cons x u r => by
    obtain ⟨h1, h2⟩ := strsAre_at r
    refine ⟨by simp [h1], fun i h => ?_⟩
    cases i with
    | zero => exact ⟨u, rfl⟩
    | succ i =>
      obtain ⟨t, e⟩ := h2 i (by simpa using h)
      exact ⟨t, by simpa using e⟩
theorem ne_int_same {w : World} {A : Around} {E : Value → Shared → Prop} {s : Shared} {a b : Int} {t u : Tok} {Q : Value → Shared → Prop} (e : a = b) (h : Q (.bool false) s) : wpAny (model PG w) A (compareOp .NotEq (.int a t) (.int b u)) Q E s :=
  PyProof.Rows.ne_int (by simpa [e] using h)
theorem sum_small {rs : List Nat} {t : Nat} (h : rs ∈ allRuns) : (rs.map fun r => r / t + 1).sum ≤ 10 := by
  obtain ⟨h1, h2⟩ := allRuns_lt rs h
  have key : ∀ l : List Nat, (∀ r ∈ l, r < 5) → (l.map fun r => r / t + 1).sum ≤ 5 * l.length := by
    intro l
    induction l with
    | nil => intro _; simp
    | cons r l ih =>
      intro hl
      have a := ih fun x hx => hl x (.tail _ hx)
      have b := hl r (.head _)
      have c := Nat.div_le_self r t
      simp only [List.map_cons, List.sum_cons, List.length_cons]
      (first | lia | omega)
  have := key rs h1
  (first | lia | omega)
theorem ws_bounds : ∀ rs ∈ allRuns, ∀ rest ∈ List.range 5, (stOf rs rest).cnt.length ≤ 20 ∧ (stOf rs rest).b ≤ 20 ∧ (stOf rs rest).nt ≤ 20 ∧ (stOf rs rest).n ≤ 20 ∧ (∀ x ∈ (stOf rs rest).cnt, x ≤ 20) := by decide +kernel
theorem qt_lay0 : ∀ n ∈ List.range 5, PyData.canLay0 (dS (qt n)) = true := by decide +kernel
theorem page_nil (q : Str) (t : Nat) : (pageL q t []).length = 0 := rfl
theorem page_pos {q : Str} {t : Nat} {rs : List Nat} (ht : 1 ≤ t) (h : rs ≠ []) : 32 ∈ (pageL q t rs).cps.toList := by
  cases rs with
  | nil => exact absurd rfl h
  | cons r rs =>
    obtain ⟨n, hn, hm⟩ : ∃ n, 1 ≤ n ∧ n ∈ rowsL t (r :: rs) := ⟨r % t + 1, Nat.le_add_left 1 _, List.mem_flatMap.mpr ⟨r, .head _, List.mem_append_right _ (.head _)⟩⟩
    unfold pageL
    rw [txt_join]
    refine mem_join (x := rowStr q n) ?_ (List.mem_map.mpr ⟨n, hm, rfl⟩)
    unfold rowStr
    rw [txt_join]
    refine mem_join (x := SPC ++ q) ?_ (by rw [List.mem_replicate]; exact ⟨by (first | lia | omega), rfl⟩)
    rw [cps_app]
    exact List.mem_append_left _ (by decide)
theorem page_none {q : Str} {t : Nat} {rs : List Nat} (ht : 1 ≤ t) (h : (((pageL q t rs).length : Int) != 0) = false) : rs = [] := by
  refine Classical.byContradiction fun hne => ?_
  have h1 := page_pos (q := q) ht hne
  have h2 : (pageL q t rs).length = 0 := by simpa using h
  have h3 : (pageL q t rs).cps.toList = [] := List.eq_nil_of_length_eq_zero h2
  rw [h3] at h1
  cases h1
theorem ne_same {w : World} {A : Around} {E : Value → Shared → Prop} {s : Shared} {x : Str} {t u : Tok} {Q : Value → Shared → Prop} (h : Q (.bool false) s) : wpAny (model PG w) A (compareOp .NotEq (.str x t) (.str x u)) Q E s :=
  ne_str (by simpa using h)
theorem ldCell {Md : Model} {A : Around} {E : Value → Shared → Prop} {s : Shared} {h₀ : Heap} {L a : Addr} {news : List (Addr × Obj)} {name : Str} {scope : Scope} {cd : Value} {x : Str} {pos : Pos} {c : Addr} {o : Obj} {v : Value} {Q : Value → Shared → Prop} (N : News h₀ L s.heap news) (hc : (envOfC name scope L a cd).cells.lookup x = some c) (hm : (c, o) ∈ news) (hd : o.data = .cell (some v)) (h : Q v s)
    (hk : scope.kind = .function := by rfl) (hl : (envOfC name scope L a cd).kindOf x = some .cell := by rfl) (hdb : (x == ("__debug__" : Str)) = false := by decide) : wpAny Md A (eval (.Name x pos) (envOfC name scope L a cd)) Q E s :=
  wpAny_Name (wpAny_loadName_cell hk hl hc ⟨o, (N _ hm).1, hd⟩ h) hdb
theorem runs_le {rs : List Nat} (h : rs ∈ allRuns) : ∀ r ∈ rs, r ≤ 4 := fun r hr => by have := (allRuns_lt rs h).1 r hr; (first | lia | omega)
theorem sign_len0 : ∀ p ∈ signs, p.1.length = 1 := by decide +kernel
theorem sign_len {sg word : Str} (h : (sg, word) ∈ signs) : sg.length = 1 := sign_len0 _ h
theorem nodup_lt {a : Nat} {l : List Nat} (h : ∀ b ∈ l, b < a) (n : l.Nodup) : (a :: l).Nodup := List.nodup_cons.mpr ⟨fun m => Nat.lt_irrefl _ (h _ m), n⟩
noncomputable def upN (rs : List Nat) (k : Nat) : List Nat := (List.range k).map fun i => rowsN (i + 1) rs
theorem upN_succ (rs : List Nat) (k : Nat) : upN rs (k + 1) = upN rs k ++ [rowsN (k + 1) rs] := by simp [upN, List.range_succ]
theorem rebuild {g h : Heap} {L : Addr} {pre post news₁ : List (Addr × Obj)} {p1 p2 : Array Value} (N : News g L h news₁) (Tn : TabsIn news₁) (K : KeepT (pre ++ (140, tableObj p1) :: (147, tableObj p2) :: post) news₁) (h1 : ∀ p ∈ pre, @Ne Nat p.1 140 ∧ @Ne Nat p.1 147) (h2 : ∀ p ∈ post, @Ne Nat p.1 140 ∧ @Ne Nat p.1 147) :
    ∃ p1' p2', TabOk pos1 p1' ∧ TabOk pos2 p2' ∧ News g L h (pre ++ (140, tableObj p1') :: (147, tableObj p2') :: post) := by
  obtain ⟨u, hu, ku⟩ := Tn.t1
  obtain ⟨v, hv, kv⟩ := Tn.t2
  refine ⟨u, v, ku, kv, cb_drop N fun p hp => ?_⟩
  rcases List.mem_append.mp hp with hp | hp
  · exact K p (List.mem_append_left _ hp) (h1 p hp).1 (h1 p hp).2
  · rcases List.mem_cons.mp hp with rfl | hp
    · exact hu
    · rcases List.mem_cons.mp hp with rfl | hp
      · exact hv
      · exact K p (List.mem_append_right _ (.tail _ (.tail _ hp))) (h2 p hp).1 (h2 p hp).2
theorem tup2_uniq {g h : Heap} {L : Addr} {nw : List (Addr × Obj)} {v v₁ v₂ u₁ u₂ : Value} (N : News g L h nw) (a : Tup2 nw v v₁ v₂) (b : Tup2 nw v u₁ u₂) : v₁ = u₁ ∧ v₂ = u₂ := by
  obtain ⟨t, n, rfl, h1⟩ := a
  obtain ⟨t', n', e, h2⟩ := b
  cases e
  have e := Option.some.inj ((N _ h1).1.symm.trans (N _ h2).1)
  simp only [Obj.mk.injEq, Data.seq.injEq, Array.mk.injEq, List.cons.injEq, and_true, true_and] at e
  exact ⟨e.1.1, e.1.2⟩
theorem tup3_uniq {g h : Heap} {L : Addr} {nw : List (Addr × Obj)} {v v₁ v₂ v₃ u₁ u₂ u₃ : Value} (N : News g L h nw) (a : Tup3 nw v v₁ v₂ v₃) (b : Tup3 nw v u₁ u₂ u₃) : v₁ = u₁ ∧ v₂ = u₂ ∧ v₃ = u₃ := by
  obtain ⟨t, n, rfl, h1⟩ := a
  obtain ⟨t', n', e, h2⟩ := b
  cases e
  have e := Option.some.inj ((N _ h1).1.symm.trans (N _ h2).1)
  simp only [Obj.mk.injEq, Data.seq.injEq, Array.mk.injEq, List.cons.injEq, and_true, true_and] at e
  exact ⟨e.1.1, e.1.2.1, e.1.2.2⟩
theorem top_max {rs0 rs1 : List Nat} {q0 q1 : Nat} (hr0 : rs0 ∈ allRuns) (hr1 : rs1 ∈ allRuns) (hq0 : q0 < 5) (hq1 : q1 < 5) : (rs0 ++ [q0] ++ (rs1 ++ [q1])).foldl max 0 + 1 = topN rs0 q0 rs1 q1 := by
  obtain ⟨_, p, _⟩ := peak_plain hr0 hq0
  obtain ⟨_, q, _⟩ := peak_plain hr1 hq1
  have key : ∀ (l : List Nat) (b : Nat), l.foldl max b = max b (l.foldl max 0) := by
    intro l
    induction l with
    | nil => intro b; simp
    | cons k l ih => intro b; simp only [List.foldl_cons]; rw [ih (max b k), ih (max 0 k)]; (first | lia | omega)
  rw [List.foldl_append, ← p, key, ← q]
  unfold topN
  (first | lia | omega)
theorem offc3 {d : Nat} {l : List (Addr × Obj)} (h : ∀ p ∈ l, @LT.lt Nat _ p.1 d) : OwnOff l [d + 1, d + 2, d + 3] := fun p hp b hb => by
  have h1 := h p hp
  rcases List.mem_cons.mp hb with rfl | hb
  · exact fun e => absurd h1 (by rw [e]; exact Nat.not_lt.mpr (Nat.le_succ d))
  · rcases List.mem_cons.mp hb with rfl | hb
    · exact fun e => absurd h1 (by rw [e]; exact Nat.not_lt.mpr (Nat.le_add_right d 2))
    · cases List.mem_singleton.mp hb
      exact fun e => absurd h1 (by rw [e]; exact Nat.not_lt.mpr (Nat.le_add_right d 3))
noncomputable def NanL (X : List (Addr × Obj)) (rs0 : List Nat) (q0 : Nat) (rs1 : List Nat) (q1 : Nat) (j : Nat) (nv : Array Value) : Prop :=
  (j = 0 ∧ nv = #[]) ∨ (j = 1 ∧ ∃ pa0, nv = #[.ref pa0] ∧ WsL X pa0 (stOf rs0 q0)) ∨ (j = 2 ∧ ∃ pa0 pa1, nv = #[.ref pa0, .ref pa1] ∧ WsL X pa0 (stOf rs0 q0) ∧ WsL X pa1 (stOf rs1 q1))
theorem peak_lt {rs0 rs1 : List Nat} {q0 q1 : Nat} (hr0 : rs0 ∈ allRuns) (hr1 : rs1 ∈ allRuns) (hq0 : q0 < 5) (hq1 : q1 < 5) : (∀ r ∈ rs0, r < topN rs0 q0 rs1 q1) ∧ (∀ r ∈ rs1, r < topN rs0 q0 rs1 q1) := by
  obtain ⟨_, _, _, _, p⟩ := peak_plain hr0 hq0
  obtain ⟨_, _, _, _, q⟩ := peak_plain hr1 hq1
  unfold topN
  exact ⟨fun r hr => by have := p r hr; (first | lia | omega), fun r hr => by have := q r hr; (first | lia | omega)⟩
/-- what the turn of the loop over the two leads knows of its lead -/
theorem lead_of {X : List (Addr × Obj)} {a0 a1 la lb n0 n1 q0 q1 ac0 ac1 m0 m1 top : Nat} {k0 k1 : Tok} {vs0 vs1 w0 w1 nv : Array Value} {rs0 rs1 : List Nat} {j : Nat} (hj : j < 2)
    (ha0 : (a0, tupOf #[.ref la, .int (q0 : Int) k0]) ∈ X) (ha1 : (a1, tupOf #[.ref lb, .int (q1 : Int) k1]) ∈ X) (hl0 : (la, listOf vs0 n0) ∈ X) (hl1 : (lb, listOf vs1 n1) ∈ X) (hv0 : IntsL vs0 rs0) (hv1 : IntsL vs1 rs1) (hr0 : rs0 ∈ allRuns) (hr1 : rs1 ∈ allRuns) (hq0 : q0 < 5) (hq1 : q1 < 5)
    (hc0 : (ac0, listOf w0 m0) ∈ X) (hc1 : (ac1, listOf w1 m1) ∈ X) (hw0 : IntsL w0 (upN rs0 top)) (hw1 : IntsL w1 (upN rs1 top)) (hp : (∀ r ∈ rs0, r < top) ∧ (∀ r ∈ rs1, r < top)) (hnv : NanL X rs0 q0 rs1 q1 j nv) :
    ∃ (aj lj nj acj mj q : Nat) (kq : Tok) (vs w : Array Value) (rs : List Nat), (#[.ref a0, .ref a1] : Array Value)[((j : Nat) : Int).toNat]? = some (.ref aj) ∧ (aj, tupOf #[.ref lj, .int (q : Int) kq]) ∈ X ∧ (lj, listOf vs nj) ∈ X ∧ IntsL vs rs ∧ rs ∈ allRuns ∧ q < 5 ∧
      (#[.ref ac0, .ref ac1] : Array Value)[((j : Nat) : Int).toNat]? = some (.ref acj) ∧ (acj, listOf w mj) ∈ X ∧ IntsL w (upN rs top) ∧ (∀ r ∈ rs, r < top) ∧ nv.size = j ∧ (∀ X' pa, (∀ y ∈ X, y ∈ X') → WsL X' pa (stOf rs q) → NanL X' rs0 q0 rs1 q1 (j + 1) (nv.push (.ref pa))) := by
  have h2 : j = 0 ∨ j = 1 := by (first | lia | omega)
  rcases h2 with rfl | rfl
  · refine ⟨a0, la, n0, ac0, m0, q0, k0, vs0, w0, rs0, rfl, ha0, hl0, hv0, hr0, hq0, rfl, hc0, hw0, hp.1, ?_, fun X' pa hs hW => ?_⟩
    · rcases hnv with ⟨_, rfl⟩ | ⟨h, _⟩ | ⟨h, _⟩
      · rfl
      · cases h
      · cases h
    · rcases hnv with ⟨_, rfl⟩ | ⟨h, _⟩ | ⟨h, _⟩
      · exact .inr (.inl ⟨rfl, pa, rfl, hW⟩)
      · cases h
      · cases h
  · refine ⟨a1, lb, n1, ac1, m1, q1, k1, vs1, w1, rs1, rfl, ha1, hl1, hv1, hr1, hq1, rfl, hc1, hw1, hp.2, ?_, fun X' pa hs hW => ?_⟩
    · rcases hnv with ⟨h, _⟩ | ⟨_, pa0, rfl, _⟩ | ⟨h, _⟩
      · cases h
      · rfl
      · cases h
    · rcases hnv with ⟨h, _⟩ | ⟨_, pa0, rfl, h0⟩ | ⟨h, _⟩
      · cases h
      · exact .inr (.inr ⟨rfl, pa0, pa, rfl, h0.mono hs, hW⟩)
      · cases h
theorem indent_z : ∀ {w : World} {loose : List Str} {mean : ExcName → Option Value} {mg mb : Str → Option Value} {dp un : Nat} {gd : Option (List Code)} {cn : Str} {cs : Scope} {a : Addr} {ccd : Value} {cl : List (Str × Addr)} {outer : List Env} {A₀ : Around} {base h₀ : Heap} {L : Addr} {m : Str → Option Value} {s : Shared} {Q E : Value → Shared → Prop} {news : List (Addr × Obj)} {pa : Addr} {st : WSt} {ts : Nat} {z : Int} {kt : Tok}
  (B : Below A₀ base outer h₀) (F : Fr h₀ L s.heap m) (X : (fr.heap_1 w.params).In h₀) (N : News h₀ L s.heap news) (T : Top topProg loose mean mg mb h₀) (hk : cs.kind = .function) (hdp : dp + 12 < recursionLimit) (hun : un + 160 < cLine) (hz : z = (ts : Int)) (W : WsL news pa st) (h1 : 1 ≤ ts) (h2 : ts ≤ 30) (hret : ∀ k₁ (s₁ : Shared), Fr h₀ L s₁.heap m → News h₀ L s₁.heap news → s₁.gens = s.gens → s₁.os = s.os → Q (.int (indW ts st : Int) k₁) s₁),
  wpAny (model PySem.Challenge.rw_wu0100_01.row.prog w) (ktrTop dp un gd cn cs L a ccd cl outer) (call (.ref 245) [.ref pa, .int z kt]) Q E s := by
  intro w loose mean mg mb dp un gd cn cs a ccd cl outer A₀ base h₀ L m s Q E news pa st ts z kt B F X N T hk hdp hun hz W h1 h2 hret
  subst hz
  exact indent B F X N T hk hdp hun W h1 h2 hret
theorem equal_b : ∀ {w : World} {loose : List Str} {mean : ExcName → Option Value} {mg mb : Str → Option Value} {dp un : Nat} {gd : Option (List Code)} {cn : Str} {cs : Scope} {a : Addr} {ccd : Value} {cl : List (Str × Addr)} {outer : List Env} {A₀ : Around} {base h₀ : Heap} {L : Addr} {m : Str → Option Value} {s : Shared} {Q E : Value → Shared → Prop} {news : List (Addr × Obj)} {pa pb : Addr} {st su : WSt} {bb : Bool}
  (B : Below A₀ base outer h₀) (F : Fr h₀ L s.heap m) (X : (fr.heap_1 w.params).In h₀) (N : News h₀ L s.heap news) (T : Top topProg loose mean mg mb h₀) (hk : cs.kind = .function) (hdp : dp + 12 < recursionLimit) (hun : un + 160 < cLine) (W : WsL news pa st) (W2 : WsL news pb su) (e : decide (st.cnt = su.cnt ∧ st.b = su.b) = bb) (hret : ∀ (s₁ : Shared), Fr h₀ L s₁.heap m → News h₀ L s₁.heap news → s₁.gens = s.gens → s₁.os = s.os → Q (.bool bb) s₁),
  wpAny (model PySem.Challenge.rw_wu0100_01.row.prog w) (ktrTop dp un gd cn cs L a ccd cl outer) (call (.ref 252) [.ref pa, .ref pb]) Q E s := by
  intro w loose mean mg mb dp un gd cn cs a ccd cl outer A₀ base h₀ L m s Q E news pa pb st su bb B F X N T hk hdp hun W W2 e hret
  subst e
  exact equalW B F X N T hk hdp hun W W2 hret
theorem less_b : ∀ {w : World} {loose : List Str} {mean : ExcName → Option Value} {mg mb : Str → Option Value} {dp un : Nat} {gd : Option (List Code)} {cn : Str} {cs : Scope} {a : Addr} {ccd : Value} {cl : List (Str × Addr)} {outer : List Env} {A₀ : Around} {base h₀ : Heap} {L : Addr} {m : Str → Option Value} {s : Shared} {Q E : Value → Shared → Prop} {news : List (Addr × Obj)} {pa pb : Addr} {st su : WSt} {bb : Bool}
  (B : Below A₀ base outer h₀) (F : Fr h₀ L s.heap m) (X : (fr.heap_1 w.params).In h₀) (N : News h₀ L s.heap news) (T : Top topProg loose mean mg mb h₀) (hk : cs.kind = .function) (hdp : dp + 26 < recursionLimit) (hun : un + 340 < cLine) (W : WsL news pa st) (W2 : WsL news pb su) (e : lessW st su = bb) (hret : ∀ (s₁ : Shared), Fr h₀ L s₁.heap m → News h₀ L s₁.heap news → s₁.gens = s.gens → s₁.os = s.os → Q (.bool bb) s₁),
  wpAny (model PySem.Challenge.rw_wu0100_01.row.prog w) (ktrTop dp un gd cn cs L a ccd cl outer) (call (.ref 266) [.ref pa, .ref pb]) Q E s := by
  intro w loose mean mg mb dp un gd cn cs a ccd cl outer A₀ base h₀ L m s Q E news pa pb st su bb B F X N T hk hdp hun W W2 e hret
  subst e
  exact less B F X N T hk hdp hun W W2 hret
theorem ne_keys {l l' : List (Addr × Obj)} {a : Nat} (h : ∀ y ∈ l, @Ne Nat y.1 a) (e : l'.map (·.1) = l.map (·.1)) : ∀ y ∈ l', @Ne Nat y.1 a := fun y hy => by
  have h1 : y.1 ∈ l.map (·.1) := by rw [← e]; exact List.mem_map.mpr ⟨y, hy, rfl⟩
  obtain ⟨z, hz, ez⟩ := List.mem_map.mp h1
  rw [← ez]
  exact h z hz
theorem nodup_ne {l : List (Addr × Obj)} {a : Addr} {ks : List Addr} (h : ∀ y ∈ l, @Ne Nat y.1 a) (e : ks = l.map (·.1)) (n : ks.Nodup) : (a :: ks).Nodup := by
  subst e
  exact List.nodup_cons.mpr ⟨fun hm => by obtain ⟨y, hy, ey⟩ := List.mem_map.mp hm; exact h y hy ey, n⟩
theorem nodup_front {α : Type} {pre post : List α} {e : α} (h : (pre ++ e :: post).Nodup) : (e :: (pre ++ post)).Nodup := List.perm_middle.nodup_iff.mp h
theorem nodup_mid {α : Type} {pre post : List α} {e a : α} (h : (a :: (pre ++ e :: post)).Nodup) : (a :: e :: (pre ++ post)).Nodup := (List.perm_middle.cons a).nodup_iff.mp h
theorem nodup_back {α : Type} {pre post : List α} {e : α} (h : (e :: (pre ++ post)).Nodup) : (pre ++ e :: post).Nodup := List.perm_middle.nodup_iff.mpr h
theorem nodup_led {l : List (Addr × Obj)} {a : Nat} {ks : List Addr} (h : ∀ p ∈ l, @LT.lt Nat _ p.1 a) (e : ks = l.map (·.1)) (n : ks.Nodup) : (a :: ks : List Addr).Nodup :=
  nodup_ne (fun y hy => Nat.ne_of_lt (h y hy)) e n
theorem keys_mid {pre post : List (Addr × Obj)} {a : Addr} {o : Obj} (h : ((pre ++ (a, o) :: post).map (·.1)).Nodup) : (∀ p ∈ pre, @Ne Nat p.1 a) ∧ ∀ p ∈ post, @Ne Nat p.1 a := by
  rw [List.map_append, List.map_cons] at h
  have h2 := List.nodup_append.mp h
  refine ⟨fun p hp => h2.2.2 p.1 (List.mem_map.mpr ⟨p, hp, rfl⟩) a (.head _), fun p hp e => ?_⟩
  exact (List.nodup_cons.mp h2.2.1).1 (by rw [← e]; exact List.mem_map.mpr ⟨p, hp, rfl⟩)
theorem upd_pre {d : Addr} {o : Obj} {post : List (Addr × Obj)} : ∀ {pre : List (Addr × Obj)}, (∀ p ∈ pre, p.1 ≠ d) → (∀ p ∈ post, p.1 ≠ d) → UpdF d o (pre ++ (d, o) :: post) (fun o' => pre ++ (d, o') :: post)
  | [], _, h => UpdF.head h
  | p :: pre, h1, h => UpdF.tail (h1 p (.head _)) (upd_pre (fun q hq => h1 q (.tail _ hq)) h)
theorem upd_mid {pre post : List (Addr × Obj)} {d : Addr} {o : Obj} {ks : List Addr} (h : ks.Nodup) (e : ks = (pre ++ (d, o) :: post).map (·.1)) : UpdF d o (pre ++ (d, o) :: post) (fun o' => pre ++ (d, o') :: post) := by
  subst e
  exact upd_pre (keys_mid h).1 (keys_mid h).2
theorem pre_ne {pre post : List (Addr × Obj)} {u v : Obj} {ks : List Addr} (h : ks.Nodup) (e : ks = (pre ++ (140, u) :: (147, v) :: post).map (·.1)) : (∀ p ∈ pre, @Ne Nat p.1 140 ∧ @Ne Nat p.1 147) ∧ ∀ p ∈ post, @Ne Nat p.1 140 ∧ @Ne Nat p.1 147 := by
  subst e
  have h1 := keys_mid h
  have h2 := keys_mid (pre := pre ++ [(140, u)]) (o := v) (a := 147) (post := post) (by simpa using h)
  exact ⟨fun p hp => ⟨h1.1 p hp, h2.1 p (List.mem_append_left _ hp)⟩, fun p hp => ⟨h1.2 p (.tail _ hp), h2.2 p hp⟩⟩
/-- the ledger of the loops over t and over the two leads -/
noncomputable def InvA (l0 l1 : List Nat) (top : Nat) (sg : Str) (ks : Tok) (slack : Int) (kl : Tok) (ac0 ac1 : Nat) (Y : List (Addr × Obj)) (os : OsState) (rest : List (Addr × Obj)) (m : Str → Option Value) (g : Array GenState) (o : OsState) : Prop :=
  ∀ C : Prop, (∀ (p1 p2 w0 : Array Value) (m0 : Nat) (w1 : Array Value) (m1 : Nat) (kp : Tok), rest = (140, tableObj p1) :: (147, tableObj p2) :: (ac0, listOf w0 m0) :: (ac1, listOf w1 m1) :: Y → TabOk pos1 p1 → TabOk pos2 p2 → IntsL w0 l0 → IntsL w1 l1 → m (Str.ofString "sign") = some (.str sg ks) → m (Str.ofString "slack") = some (.int slack kl) → m (Str.ofString "top") = some (.int (top : Int) kp) → AllBare g → o = os → C) → C
theorem t_start {C : Prop} {g h : Heap} {L acl ac1 ac0 : Nat} {ol v0 v1 c3 c2 c2' c1 t1 t2 : Obj} {eD : Addr × Obj} {R0 : List (Addr × Obj)} (N : News g L h ((acl, ol) :: (ac1, v1) :: (ac0, v0) :: eD :: (L + 1 + 1 + 1, c3) :: (L + 1 + 1, c2) :: (L + 1, c1) :: (140, t1) :: (147, t2) :: R0))
    (l1 : AllLt L ((140, t1) :: (147, t2) :: R0)) (lt0 : AllLt ac0 (eD :: (L + 1 + 1 + 1, c3) :: (L + 1 + 1, c2') :: (L + 1, c1) :: (140, t1) :: (147, t2) :: R0)) (lt1 : AllLt ac1 ((ac0, v0) :: eD :: (L + 1 + 1 + 1, c3) :: (L + 1 + 1, c2') :: (L + 1, c1) :: (140, t1) :: (147, t2) :: R0)) (lt2 : AllLt acl ((ac1, v1) :: (ac0, v0) :: eD :: (L + 1 + 1 + 1, c3) :: (L + 1 + 1, c2') :: (L + 1, c1) :: (140, t1) :: (147, t2) :: R0))
    (hnd : ((140 : Addr) :: 147 :: R0.map (·.1)).Nodup)
    (k : ∀ XT YT : List (Addr × Obj), YT = (L + 1 + 1 + 1, c3) :: XT → (acl, ol) ∈ XT → (L + 1 + 1, c2) ∈ XT → (L + 1, c1) ∈ XT → (∀ y ∈ R0, y ∈ XT) → ((140 : Addr) :: 147 :: ac0 :: ac1 :: YT.map (·.1)).Nodup → News g L h ((140, t1) :: (147, t2) :: (ac0, v0) :: (ac1, v1) :: YT) → C) : C := by
  have a1 := allLt_all _ l1
  have a2 := allLt_all _ lt0
  have a3 := allLt_all _ lt1
  have a4 := allLt_all _ lt2
  have b1 : ∀ p ∈ (140, t1) :: (147, t2) :: R0, @LT.lt Nat _ p.1 (L + 1) := fun p hp => Nat.lt_succ_of_lt (a1 p hp)
  have b2 : ∀ p ∈ (L + 1, c1) :: (140, t1) :: (147, t2) :: R0, @LT.lt Nat _ p.1 (L + 1 + 1) := List.forall_mem_cons.mpr ⟨Nat.lt_succ_self _, fun p hp => Nat.lt_succ_of_lt (b1 p hp)⟩
  have b3 : ∀ p ∈ (L + 1 + 1, c2') :: (L + 1, c1) :: (140, t1) :: (147, t2) :: R0, @LT.lt Nat _ p.1 (L + 1 + 1 + 1) := List.forall_mem_cons.mpr ⟨Nat.lt_succ_self _, fun p hp => Nat.lt_succ_of_lt (b2 p hp)⟩
  have n := nodup_led (fun p hp => a4 p (mem_drop (pre := [_, _]) p hp)) rfl (nodup_led (fun p hp => a3 p (mem_drop (pre := [_]) p hp)) rfl (nodup_led (fun p hp => a2 p (.tail _ hp)) rfl (nodup_led b3 rfl (nodup_led b2 rfl (nodup_led b1 rfl hnd)))))
  refine k ((acl, ol) :: (L + 1 + 1, c2) :: (L + 1, c1) :: R0) _ rfl (.head _) (.tail _ (.head _)) (.tail _ (.tail _ (.head _))) (fun y hy => .tail _ (.tail _ (.tail _ hy))) ?_ (cb_drop N fun p hp => ?_)
  · exact nodup_front (pre := [_, _, _, _, _, _, _]) (nodup_front (pre := [_, _, _, _, _, _, _]) (nodup_front (pre := [_, _, _]) (nodup_front (pre := [_, _]) (nodup_front (pre := [_, _, _]) n))))
  · exact mem_drop (pre := [_, _, _]) p (mem_mid (pre := [_, _, _]) p (mem_mid (pre := [_, _]) p (mem_mid (pre := [_, _, _]) p (mem_mid (pre := [_, _, _, _, _, _, _]) p (mem_mid (pre := [_, _, _, _, _, _, _]) p hp)))))
/-- what the turn over the two leads of the loop over t knows of its lead -/
theorem which_of {C : Prop} {g h : Heap} {L a0 a1 la lb n0 n1 q0 q1 ac0 ac1 m0 m1 it it2 k : Nat} {k0 k1 : Tok} {vs0 vs1 w0 w1 p1 p2 : Array Value} {o' o2' : Obj} {rs0 rs1 : List Nat} {sg word : Str} {j : Nat} {YT : List (Addr × Obj)} (hj : j < 2)
    (ha0 : (a0, tupOf #[.ref la, .int (q0 : Int) k0]) ∈ YT) (ha1 : (a1, tupOf #[.ref lb, .int (q1 : Int) k1]) ∈ YT) (hl0 : (la, listOf vs0 n0) ∈ YT) (hl1 : (lb, listOf vs1 n1) ∈ YT) (hv0 : IntsL vs0 rs0) (hv1 : IntsL vs1 rs1) (hr0 : rs0 ∈ allRuns) (hr1 : rs1 ∈ allRuns) (hk : k < 5)
    (hw0 : IntsL w0 (upN rs0 (k + if 0 < j then 1 else 0))) (hw1 : IntsL w1 (upN rs1 (k + if 1 < j then 1 else 0))) (hsg : (sg, word) ∈ signs)
    (hT : ((140 : Addr) :: 147 :: ac0 :: ac1 :: YT.map (·.1)).Nodup) (hne : ∀ y ∈ ((140, tableObj p1) :: (147, tableObj p2) :: (ac0, listOf w0 m0) :: (ac1, listOf w1 m1) :: YT : List (Addr × Obj)), @Ne Nat y.1 it) (hne2 : ∀ y ∈ ((140, tableObj p1) :: (147, tableObj p2) :: (ac0, listOf w0 m0) :: (ac1, listOf w1 m1) :: (it, o') :: YT : List (Addr × Obj)), @Ne Nat y.1 it2)
    (N : News g L h ((it2, o2') :: (140, tableObj p1) :: (147, tableObj p2) :: (ac0, listOf w0 m0) :: (ac1, listOf w1 m1) :: (it, o') :: YT))
    (K : ∀ (aj lj nj qj acj mj : Nat) (kj : Tok) (vsj wj : Array Value) (rsj : List Nat) (wd : Str) (Z : List (Addr × Obj)), (#[.ref a0, .ref a1] : Array Value)[((j : Nat) : Int).toNat]? = some (.ref aj) → (aj, tupOf #[.ref lj, .int (qj : Int) kj]) ∈ Z → (lj, listOf vsj nj) ∈ Z → IntsL vsj rsj → rsj ∈ allRuns → (#[.ref ac0, .ref ac1] : Array Value)[((j : Nat) : Int).toNat]? = some (.ref acj) → IntsL wj (upN rsj k) → (∀ y ∈ YT, y ∈ Z) → ((it2 : Addr) :: acj :: 140 :: 147 :: Z.map (·.1)).Nodup →
      WordOk wd → (if (((j : Nat) : Int) == 1) = true then wd = sg else EscTo sg wd) → (if (((j : Nat) : Int) == 1) = true then EscTo (pageL wd (1 + k) rsj) (pageL word (1 + k) rsj) else pageL word (1 + k) rsj = pageL wd (1 + k) rsj) →
      News g L h ((it2, o2') :: (acj, listOf wj mj) :: (140, tableObj p1) :: (147, tableObj p2) :: Z) →
      (∀ (h' : Heap) (p1' p2' w' : Array Value) (m' : Nat), IntsL w' (upN rsj (k + 1)) → News g L h' ((it2, o2') :: (acj, listOf w' m') :: (140, tableObj p1') :: (147, tableObj p2') :: Z) → ∀ D : Prop, (∀ (w0' : Array Value) (m0' : Nat) (w1' : Array Value) (m1' : Nat), IntsL w0' (upN rs0 (k + if 0 < j + 1 then 1 else 0)) → IntsL w1' (upN rs1 (k + if 1 < j + 1 then 1 else 0)) → dropL it2 ((it2, o2') :: (140, tableObj p1') :: (147, tableObj p2') :: (ac0, listOf w0' m0') :: (ac1, listOf w1' m1') :: (it, o') :: YT) = (140, tableObj p1') :: (147, tableObj p2') :: (ac0, listOf w0' m0') :: (ac1, listOf w1' m1') :: (it, o') :: YT → News g L h' ((it2, o2') :: (140, tableObj p1') :: (147, tableObj p2') :: (ac0, listOf w0' m0') :: (ac1, listOf w1' m1') :: (it, o') :: YT) → D) → D) → C) : C := by
  have hW := words_ok (sg, word) hsg
  have hE0 : EscTo sg word := esc_sign (sg, word) hsg
  have hd : ∀ (p1' p2' w0' : Array Value) (m0' : Nat) (w1' : Array Value) (m1' : Nat), dropL it2 ((it2, o2') :: (140, tableObj p1') :: (147, tableObj p2') :: (ac0, listOf w0' m0') :: (ac1, listOf w1' m1') :: (it, o') :: YT) = (140, tableObj p1') :: (147, tableObj p2') :: (ac0, listOf w0' m0') :: (ac1, listOf w1' m1') :: (it, o') :: YT := fun _ _ _ _ _ _ => dropL_head (ne_keys hne2 rfl)
  have n1 : ((it2 : Addr) :: 140 :: 147 :: ac0 :: ac1 :: it :: YT.map (·.1)).Nodup := nodup_ne hne2 rfl (nodup_back (pre := [140, 147, ac0, ac1]) (nodup_ne hne rfl hT))
  have h2 : j = 0 ∨ j = 1 := by (first | lia | omega)
  rcases h2 with rfl | rfl
  · exact K a0 la n0 q0 ac0 m0 k0 vs0 w0 rs0 word ((ac1, listOf w1 m1) :: (it, o') :: YT) rfl (.tail _ (.tail _ ha0)) (.tail _ (.tail _ hl0)) hv0 hr0 rfl hw0 (fun y hy => .tail _ (.tail _ hy)) (nodup_mid (pre := [140, 147]) n1) hW.2 (by rw [if_neg (by decide)]; exact hE0) (by rw [if_neg (by decide)]) (cb_drop N (mem_under (mem_mid (pre := [_, _]))))
      fun h' p1' p2' w' m' hw' N' D kk => kk w' m' w1 m1 hw' hw1 (hd _ _ _ _ _ _) (cb_drop N' (mem_under (mem_mid' (pre := [_, _]))))
  · exact K a1 lb _ q1 ac1 m1 k1 vs1 w1 rs1 sg ((ac0, listOf w0 m0) :: (it, o') :: YT) rfl (.tail _ (.tail _ ha1)) (.tail _ (.tail _ hl1)) hv1 hr1 rfl hw1 (fun y hy => .tail _ (.tail _ hy)) (nodup_mid (pre := [140, 147, ac0]) n1) hW.1 (by rw [if_pos (by decide)]) (by rw [if_pos (by decide)]; exact esc_page (by (first | lia | omega)) (by (first | lia | omega)) (runs_le hr1) (allRuns_lt _ hr1).2 (sg, word) hsg) (cb_drop N (mem_under (mem_mid (pre := [_, _, _]))))
      fun h' p1' p2' w' m' hw' N' D kk => kk w0 m0 w' m' hw0 hw' (hd _ _ _ _ _ _) (cb_drop N' (mem_under (mem_mid' (pre := [_, _, _]))))
theorem nan_start {C : Prop} {g h : Heap} {L an ac0 ac1 : Nat} {oa t1 t2 v0 v1 c3 : Obj} {XT YT : List (Addr × Obj)} (N : News g L h ((an, oa) :: (140, t1) :: (147, t2) :: (ac0, v0) :: (ac1, v1) :: YT)) (hYT : YT = (L + 1 + 1 + 1, c3) :: XT) (hT : ((140 : Addr) :: 147 :: ac0 :: ac1 :: YT.map (·.1)).Nodup) (lta : AllLt an ((140, t1) :: (147, t2) :: (ac0, v0) :: (ac1, v1) :: YT))
    (k : ∀ X0 : List (Addr × Obj), (140, t1) ∈ X0 → (147, t2) ∈ X0 → (ac0, v0) ∈ X0 → (ac1, v1) ∈ X0 → (∀ y ∈ XT, y ∈ X0) → (∀ y ∈ X0, @Ne Nat y.1 an ∧ @Ne Nat y.1 (L + 1 + 1 + 1)) → @Ne Nat (L + 1 + 1 + 1) an → News g L h ((an, oa) :: (L + 1 + 1 + 1, c3) :: X0) → C) : C := by
  have a := allLt_all _ lta
  subst hYT
  have b := (keys_mid (pre := [(140, t1), (147, t2), (ac0, v0), (ac1, v1)]) (o := c3) (a := L + 1 + 1 + 1) (post := XT) hT)
  exact k ((140, t1) :: (147, t2) :: (ac0, v0) :: (ac1, v1) :: XT) (.head _) (.tail _ (.head _)) (.tail _ (.tail _ (.head _))) (.tail _ (.tail _ (.tail _ (.head _)))) (fun y hy => .tail _ (.tail _ (.tail _ (.tail _ hy)))) (fun y hy => ⟨Nat.ne_of_lt (a y (mem_drop (pre := [_, _, _, _]) y hy)), (List.mem_append.mp (show y ∈ [(140, t1), (147, t2), (ac0, v0), (ac1, v1)] ++ XT from hy)).elim (b.1 y) (b.2 y)⟩) (Nat.ne_of_lt (a (L + 1 + 1 + 1, c3) (.tail _ (.tail _ (.tail _ (.tail _ (.head _))))))) (cb_drop N (mem_under (mem_mid (pre := [_, _, _, _]))))
/-- the ledger of the loop that makes the two nannies -/
noncomputable def InvN (rs0 : List Nat) (q0 : Nat) (rs1 : List Nat) (q1 top : Nat) (sg : Str) (ks : Tok) (L an : Nat) (X0 : List (Addr × Obj)) (os : OsState) (j : Nat) (rest : List (Addr × Obj)) (m : Str → Option Value) (g : Array GenState) (o : OsState) : Prop :=
  ∀ C : Prop, (∀ (nv : Array Value) (nc : Nat) (X : List (Addr × Obj)) (c3x : Obj) (vt : Option Value) (kp : Tok), rest = (an, listOf nv nc) :: (L + 1 + 1 + 1, c3x) :: X → c3x.data = .cell vt → (∀ y ∈ X0, y ∈ X) → (∀ y ∈ X, @Ne Nat y.1 an ∧ @Ne Nat y.1 (L + 1 + 1 + 1)) → NanL X rs0 q0 rs1 q1 j nv → m (Str.ofString "sign") = some (.str sg ks) → m (Str.ofString "nannies") = some (.ref an) → m (Str.ofString "top") = some (.int (top : Int) kp) → AllBare g → o = os → C) → C
theorem lead_ofC {C : Prop} {X : List (Addr × Obj)} {a0 a1 la lb n0 n1 q0 q1 ac0 ac1 m0 m1 top : Nat} {k0 k1 : Tok} {vs0 vs1 w0 w1 nv : Array Value} {rs0 rs1 : List Nat} {j : Nat} (hj : j < 2)
    (ha0 : (a0, tupOf #[.ref la, .int (q0 : Int) k0]) ∈ X) (ha1 : (a1, tupOf #[.ref lb, .int (q1 : Int) k1]) ∈ X) (hl0 : (la, listOf vs0 n0) ∈ X) (hl1 : (lb, listOf vs1 n1) ∈ X) (hv0 : IntsL vs0 rs0) (hv1 : IntsL vs1 rs1) (hr0 : rs0 ∈ allRuns) (hr1 : rs1 ∈ allRuns) (hq0 : q0 < 5) (hq1 : q1 < 5)
    (hc0 : (ac0, listOf w0 m0) ∈ X) (hc1 : (ac1, listOf w1 m1) ∈ X) (hw0 : IntsL w0 (upN rs0 top)) (hw1 : IntsL w1 (upN rs1 top)) (hp : (∀ r ∈ rs0, r < top) ∧ (∀ r ∈ rs1, r < top)) (hnv : NanL X rs0 q0 rs1 q1 j nv)
    (K : ∀ (aj lj nj acj mj q : Nat) (kq : Tok) (vs w : Array Value) (rs : List Nat), (#[.ref a0, .ref a1] : Array Value)[((j : Nat) : Int).toNat]? = some (.ref aj) → (aj, tupOf #[.ref lj, .int (q : Int) kq]) ∈ X → (lj, listOf vs nj) ∈ X → IntsL vs rs → rs ∈ allRuns → q < 5 →
      (#[.ref ac0, .ref ac1] : Array Value)[((j : Nat) : Int).toNat]? = some (.ref acj) → (acj, listOf w mj) ∈ X → IntsL w (upN rs top) → (∀ r ∈ rs, r < top) → nv.size = j → (∀ X' pa, (∀ y ∈ X, y ∈ X') → WsL X' pa (stOf rs q) → NanL X' rs0 q0 rs1 q1 (j + 1) (nv.push (.ref pa))) → C) : C := by
  obtain ⟨aj, lj, nj, acj, mj, q, kq, vs, w2, rs, x1, x2, x3, x4, x5, x6, x7, x8, x9, x10, x11, x12⟩ := lead_of hj ha0 ha1 hl0 hl1 hv0 hv1 hr0 hr1 hq0 hq1 hc0 hc1 hw0 hw1 hp hnv
  exact K aj lj nj acj mj q kq vs w2 rs x1 x2 x3 x4 x5 x6 x7 x8 x9 x10 x11 x12
theorem nan_pack {C : Prop} {g h : Heap} {L c : Nat} {e0 e1 t1 t2 p f i a a0 : Addr × Obj} {cx : Obj} {X : List (Addr × Obj)} (N : News g L h (e0 :: e1 :: t1 :: t2 :: p :: f :: i :: a :: (c, cx) :: X)) (ea : a0.1 = a.1)
    (lf : ∀ q ∈ i :: a0 :: (c, cx) :: X, @LT.lt Nat _ q.1 f.1) (lp : ∀ q ∈ i :: a0 :: (c, cx) :: X, @LT.lt Nat _ q.1 p.1) (l2 : ∀ q ∈ i :: a0 :: (c, cx) :: X, @LT.lt Nat _ q.1 t2.1) (l1 : ∀ q ∈ i :: a0 :: (c, cx) :: X, @LT.lt Nat _ q.1 t1.1)
    (hoff : ∀ y ∈ X, @Ne Nat y.1 a.1 ∧ @Ne Nat y.1 c) (hit : ∀ y ∈ a0 :: (c, cx) :: X, @Ne Nat y.1 i.1) (hca : @Ne Nat c a.1)
    (k : ∀ Z Y : List (Addr × Obj), Y = i :: a :: Z → (∀ y ∈ X, y ∈ Z) → t1 ∈ Z → t2 ∈ Z → p ∈ Z → f ∈ Z → (∀ y ∈ Z, @Ne Nat y.1 a.1 ∧ @Ne Nat y.1 c) → (∀ y ∈ Z, @Ne Nat y.1 i.1) → (∀ y ∈ Y, @Ne Nat y.1 c) → (∀ y ∈ Z, y ∈ Y) → News g L h ((c, cx) :: Y) → C) : C := by
  have nx : ∀ (q : Addr × Obj), (∀ r ∈ i :: a0 :: (c, cx) :: X, @LT.lt Nat _ r.1 q.1) → (@Ne Nat q.1 a.1 ∧ @Ne Nat q.1 c) ∧ @Ne Nat q.1 i.1 := fun q h => ⟨⟨by rw [← ea]; exact Nat.ne_of_gt (h _ (.tail _ (.head _))), Nat.ne_of_gt (h _ (.tail _ (.tail _ (.head _))))⟩, Nat.ne_of_gt (h _ (.head _))⟩
  have hz : ∀ y ∈ t1 :: t2 :: p :: f :: X, (@Ne Nat y.1 a.1 ∧ @Ne Nat y.1 c) ∧ @Ne Nat y.1 i.1 := List.forall_mem_cons.mpr ⟨nx _ l1, List.forall_mem_cons.mpr ⟨nx _ l2, List.forall_mem_cons.mpr ⟨nx _ lp, List.forall_mem_cons.mpr ⟨nx _ lf, fun y hy => ⟨hoff y hy, hit y (.tail _ (.tail _ hy))⟩⟩⟩⟩⟩
  exact k (t1 :: t2 :: p :: f :: X) _ rfl (fun y hy => .tail _ (.tail _ (.tail _ (.tail _ hy)))) (.head _) (.tail _ (.head _)) (.tail _ (.tail _ (.head _))) (.tail _ (.tail _ (.tail _ (.head _)))) (fun y hy => (hz y hy).1) (fun y hy => (hz y hy).2) (List.forall_mem_cons.mpr ⟨Ne.symm (hit (c, cx) (.tail _ (.head _))), List.forall_mem_cons.mpr ⟨Ne.symm hca, fun y hy => (hz y hy).1.2⟩⟩) (fun y hy => .tail _ (.tail _ hy))
    (cb_drop N fun y hy => .tail _ (.tail _ (mem_mid (pre := [_, _, _, _, _]) y (mem_mid (pre := [_, _, _, _, _]) y (mem_mid (pre := [_, _, _, _, _, _]) y hy)))))
theorem nan_back {i a c : Addr × Obj} {Z Y : List (Addr × Obj)} (hY : Y = i :: a :: Z) : ∀ p ∈ i :: a :: c :: Z, p ∈ c :: Y := fun p hp => by
  subst hY
  exact mem_mid' (pre := [i, a]) p hp
noncomputable def InvM (Y : List (Addr × Obj)) (lj q : Nat) (kq : Tok) (pa : Nat) (sg : Str) (ks : Tok) (an top : Nat) (os : OsState) (rest : List (Addr × Obj)) (m : Str → Option Value) (g : Array GenState) (o : OsState) : Prop :=
  ∀ C : Prop, (∀ kp : Tok, Y = rest → m (Str.ofString "runs") = some (.ref lj) → m (Str.ofString "rest") = some (.int (q : Int) kq) → m (Str.ofString "nanny") = some (.ref pa) → m (Str.ofString "sign") = some (.str sg ks) → m (Str.ofString "nannies") = some (.ref an) → m (Str.ofString "top") = some (.int (top : Int) kp) → AllBare g → o = os → C) → C
noncomputable def BindT (nw : List (Addr × Obj)) (v : Value) (m : Str → Option Value) : Prop := ∃ v₁ v₂ v₃, Tup3 nw v v₁ v₂ v₃ ∧ m (Str.ofString "t") = some v₁ ∧ m (Str.ofString "a") = some v₂ ∧ m (Str.ofString "b") = some v₃
theorem trip_bind {C : Prop} {g h : Heap} {L i : Nat} {nw0 nw : List (Addr × Obj)} {vs : Array Value} {l : List (Nat × Nat × Nat)} {v : Value} {m : Str → Option Value} (H : TripsL nw0 vs l) (hi : i < vs.size) (hP : vs[i]? = some v) (hb : BindT nw v m) (hs : ∀ y ∈ nw0, y ∈ nw) (N : News g L h nw)
    (k : ∀ (u1 u2 u3 : Tok) (hi' : i < l.length), m (Str.ofString "t") = some (.int (l[i].1 : Int) u1) → m (Str.ofString "a") = some (.int (l[i].2.1 : Int) u2) → m (Str.ofString "b") = some (.int (l[i].2.2 : Int) u3) → C) : C := by
  obtain ⟨Tq, u1, u2, u3, e, hm⟩ := H.2 i (by rw [← H.1]; exact hi)
  rw [e] at hP
  cases hP
  obtain ⟨v₁, v₂, v₃, ht3, g1, g2, g3⟩ := hb
  obtain ⟨rfl, rfl, rfl⟩ := tup3_uniq N ht3 ⟨Tq, _, rfl, hs _ hm⟩
  exact k u1 u2 u3 (by rw [← H.1]; exact hi) g1 g2 g3
theorem trip_tup {nw0 nw : List (Addr × Obj)} {vs : Array Value} {l : List (Nat × Nat × Nat)} {v : Value} {i : Nat} (H : TripsL nw0 vs l) (hi : i < vs.size) (hP : vs[i]? = some v) (hs : ∀ y ∈ nw0, y ∈ nw) : ∃ v₁ v₂ v₃, Tup3 nw v v₁ v₂ v₃ := by
  obtain ⟨Tq, u1, u2, u3, e, hm⟩ := H.2 i (by rw [← H.1]; exact hi)
  rw [e] at hP
  cases hP
  exact ⟨_, _, _, Tq, _, rfl, hs _ hm⟩
theorem trips_yes {nw nw1 : List (Addr × Obj)} {ys : List Value} {l : List (Nat × Nat × Nat)} {P : Nat × Nat × Nat → Bool} {i T : Nat} {k1 k2 k3 : Tok} (H : TripsL nw1 ys.toArray ((l.take i).filter P)) (hi : i < l.length) (hp : P l[i] = true) (hm : (T, tupOf #[.int (l[i].1 : Int) k1, .int (l[i].2.1 : Int) k2, .int (l[i].2.2 : Int) k3]) ∈ nw) (hs : ∀ y ∈ nw1, y ∈ nw) : TripsL nw (ys ++ [Value.ref T]).toArray ((l.take (i + 1)).filter P) := by
  rw [List.take_add_one, List.getElem?_eq_getElem hi, List.filter_append, show (ys ++ [Value.ref T]).toArray = ys.toArray.push (.ref T) by simp]
  simp only [Option.toList, List.filter_cons, hp, if_true, List.filter_nil]
  exact (H.mono hs).push hm
theorem trips_yesB {nw nw1 : List (Addr × Obj)} {ys : List Value} {l : List (Nat × Nat × Nat)} {P : Nat × Nat × Nat → Bool} {i T : Nat} {k1 k2 k3 : Tok} (H : TripsL nw1 ys.toArray (((l.take i).filter P).map fun p => (p.1, p.2.2, p.2.1))) (hi : i < l.length) (hp : P l[i] = true) (hm : (T, tupOf #[.int (l[i].1 : Int) k1, .int (l[i].2.2 : Int) k2, .int (l[i].2.1 : Int) k3]) ∈ nw) (hs : ∀ y ∈ nw1, y ∈ nw) : TripsL nw (ys ++ [Value.ref T]).toArray (((l.take (i + 1)).filter P).map fun p => (p.1, p.2.2, p.2.1)) := by
  rw [List.take_add_one, List.getElem?_eq_getElem hi, List.filter_append, List.map_append, show (ys ++ [Value.ref T]).toArray = ys.toArray.push (.ref T) by simp]
  simp only [Option.toList, List.filter_cons, hp, if_true, List.filter_nil, List.map_cons, List.map_nil]
  exact (H.mono hs).push hm
theorem trips_no {l : List (Nat × Nat × Nat)} {P : Nat × Nat × Nat → Bool} {i : Nat} (hi : i < l.length) (hp : P l[i] = false) : (l.take (i + 1)).filter P = (l.take i).filter P := by
  rw [List.take_add_one, List.getElem?_eq_getElem hi, List.filter_append]
  simp only [Option.toList, List.filter_cons, hp, List.filter_nil, Bool.false_eq_true, if_false, List.append_nil]
noncomputable def foreP (p : Nat × Nat × Nat) : Bool := decide (p.2.2 ≤ p.2.1)
noncomputable def backP (p : Nat × Nat × Nat) : Bool := decide (p.2.1 ≤ p.2.2)
noncomputable def apartP (p : Nat × Nat × Nat) : Bool := decide (p.2.1 ≠ p.2.2)
noncomputable def foreL (rs0 : List Nat) (q0 : Nat) (rs1 : List Nat) (q1 : Nat) : List (Nat × Nat × Nat) := (tableL rs0 q0 rs1 q1).filter foreP
noncomputable def backL (rs0 : List Nat) (q0 : Nat) (rs1 : List Nat) (q1 : Nat) : List (Nat × Nat × Nat) := ((tableL rs0 q0 rs1 q1).filter backP).map fun p => (p.1, p.2.2, p.2.1)
noncomputable def apartL (rs0 : List Nat) (q0 : Nat) (rs1 : List Nat) (q1 : Nat) : List (Nat × Nat × Nat) := (tableL rs0 q0 rs1 q1).filter apartP
/-- what the last lines compare -/
theorem wit_pack {C : Prop} {rs0 rs1 : List Nat} {q0 q1 : Nat} (hr0 : rs0 ∈ allRuns) (hr1 : rs1 ∈ allRuns) (hq0 : q0 < 5) (hq1 : q1 < 5)
    (k : ∀ ba bf bk : Bool, witL (fun a b => decide (b ≤ a)) (stOf rs0 q0) (stOf rs1 q1) (topW (stOf rs0 q0) (stOf rs1 q1)) = foreL rs0 q0 rs1 q1 → witL (fun a b => decide (b ≤ a)) (stOf rs1 q1) (stOf rs0 q0) (topW (stOf rs1 q1) (stOf rs0 q0)) = backL rs0 q0 rs1 q1 → witL (fun a b => decide (a ≠ b)) (stOf rs0 q0) (stOf rs1 q1) (topW (stOf rs0 q0) (stOf rs1 q1)) = apartL rs0 q0 rs1 q1 → decide (apartL rs0 q0 rs1 q1 = []) = ba → decide (foreL rs0 q0 rs1 q1 = []) = bf → decide (backL rs0 q0 rs1 q1 = []) = bk →
      decide ((stOf rs0 q0).cnt = (stOf rs1 q1).cnt ∧ (stOf rs0 q0).b = (stOf rs1 q1).b) = ba → lessW (stOf rs0 q0) (stOf rs1 q1) = bf → lessW (stOf rs1 q1) (stOf rs0 q0) = bk → C) : C := by
  have e1 : witL (fun a b => decide (b ≤ a)) (stOf rs0 q0) (stOf rs1 q1) (topW (stOf rs0 q0) (stOf rs1 q1)) = foreL rs0 q0 rs1 q1 := wit_plain (fun a b => decide (b ≤ a)) hr0 hq0 hr1 hq1
  have e2 : witL (fun a b => decide (b ≤ a)) (stOf rs1 q1) (stOf rs0 q0) (topW (stOf rs1 q1) (stOf rs0 q0)) = backL rs0 q0 rs1 q1 := (wit_plain (fun a b => decide (b ≤ a)) hr1 hq1 hr0 hq0).trans tab_swap.symm
  have e3 : witL (fun a b => decide (a ≠ b)) (stOf rs0 q0) (stOf rs1 q1) (topW (stOf rs0 q0) (stOf rs1 q1)) = apartL rs0 q0 rs1 q1 := wit_plain (fun a b => decide (a ≠ b)) hr0 hq0 hr1 hq1
  refine k _ _ _ e1 e2 e3 rfl rfl rfl (decide_eq_decide.mpr (equal_plain hr0 hq0 hr1 hq1)) (less_plain hr0 hq0 hr1 hq1) ?_
  have h : backL rs0 q0 rs1 q1 = _ := tab_swap
  rw [h]
  exact less_plain hr1 hq1 hr0 hq0
theorem top_of {C : Prop} {g h : Heap} {L a0 a1 la lb n0 n1 q0 q1 i : Nat} {k0 k1 : Tok} {vs0 vs1 : Array Value} {rs0 rs1 : List Nat} {v v₁ v₂ : Value} {nw nw0 : List (Addr × Obj)} (hi : i < (#[.ref a0, .ref a1] : Array Value).size) (hv : (#[.ref a0, .ref a1] : Array Value)[i]? = some v) (ht : Tup2 nw v v₁ v₂) (N : News g L h nw) (hs : ∀ y ∈ nw0, y ∈ nw)
    (ha0 : (a0, tupOf #[.ref la, .int (q0 : Int) k0]) ∈ nw0) (ha1 : (a1, tupOf #[.ref lb, .int (q1 : Int) k1]) ∈ nw0) (hl0 : (la, listOf vs0 n0) ∈ nw0) (hl1 : (lb, listOf vs1 n1) ∈ nw0) (hv0 : IntsL vs0 rs0) (hv1 : IntsL vs1 rs1) (hr0 : rs0 ∈ allRuns) (hr1 : rs1 ∈ allRuns)
    (K : ∀ (lj nj qj : Nat) (kj : Tok) (vsj : Array Value) (rsj : List Nat), v₁ = .ref lj → v₂ = .int (qj : Int) kj → (lj, listOf vsj nj) ∈ nw → vsj.size ≤ 2 → IntsL vsj rsj → (if i = 0 then rs0 ++ [q0] else rs1 ++ [q1]) = rsj ++ [qj] → C) : C := by
  have h2 : i = 0 ∨ i = 1 := by simp at hi; (first | lia | omega)
  rcases h2 with rfl | rfl
  · cases hv
    obtain ⟨rfl, rfl⟩ := tup2_uniq N ht ⟨_, _, rfl, hs _ ha0⟩
    exact K la n0 q0 k0 vs0 rs0 rfl rfl (hs _ hl0) (by rw [hv0.1]; exact (allRuns_lt _ hr0).2) hv0 rfl
  · cases hv
    obtain ⟨rfl, rfl⟩ := tup2_uniq N ht ⟨_, _, rfl, hs _ ha1⟩
    exact K lb n1 q1 k1 vs1 rs1 rfl rfl (hs _ hl1) (by rw [hv1.1]; exact (allRuns_lt _ hr1).2) hv1 rfl
theorem nan_two {C : Prop} {X : List (Addr × Obj)} {rs0 rs1 : List Nat} {q0 q1 : Nat} {nv : Array Value} (h : NanL X rs0 q0 rs1 q1 2 nv) (k : ∀ pa0 pa1, nv = #[.ref pa0, .ref pa1] → WsL X pa0 (stOf rs0 q0) → WsL X pa1 (stOf rs1 q1) → C) : C := by
  obtain ⟨h, -⟩ | ⟨h, -⟩ | ⟨-, pa0, pa1, e, h0, h1⟩ := h
  · cases h
  · cases h
  · exact k pa0 pa1 e h0 h1
theorem snoc_take {α β : Type} {f : α → β} {l : List α} {i : Nat} (hi : i < l.length) : (l.take (i + 1)).map f = (l.take i).map f ++ [f l[i]] := by
  rw [List.take_add_one, List.getElem?_eq_getElem hi, List.map_append]
  rfl
theorem take_all {α β : Type} {f : α → β} {l : List α} {n : Nat} (h : n = l.length) : (l.take n).map f = l.map f := by rw [h, List.take_length]
theorem tok_at {vs : Array Value} {rs : List Nat} {i : Nat} {v : Value} {C : Prop} (H : IntsL vs rs) (hi : i < vs.size) (hP : vs[i]? = some v) (k : ∀ (tk : Tok) (hi' : i < rs.length), v = .int (rs[i] : Int) tk → C) : C := by
  obtain ⟨tk, e⟩ := H.2 i (by rw [← H.1]; exact hi)
  exact k tk (by rw [← H.1]; exact hi) (Option.some.inj (hP.symm.trans e))
end
section
open PySem PySem.Spec PySem.Calls PySem.W PyProof.Rows
set_option maxRecDepth 100000
set_option maxHeartbeats 0
theorem rows_S29_1 : True := by
  k_with_none
  w_top off
  k_with "zv" => ((repeat (first | (refine Eq.trans (ite_off ?_) ?_; focus decide) | (refine Eq.trans (upd_off ?_) ?_; focus decide))); first | with_reducible assumption | exact if_pos rfl | exact upd_on)
  k_with "z8" => ((try (case A => assumption)); (case B => k_asm); (case F => k_asm); (case X => k_asm); (case N => first | k_asm | exact cb_drop (by k_asm) (by intro p hp; repeat (first | exact hp | apply List.Mem.tail))); (case T => k_asm); (case hk => first | exact rfl | assumption); (case hdp => ktr_room); (case hun => ktr_units); (try (case G => assumption)))
  k_with "zo" => (first | (first | lia | omega) | (simp; (first | lia | omega)))
  k_with "k_mem" => (assumption)
  k_with "k_ne" => (first | exact ne_mem1 (by with_reducible assumption) (by with_reducible assumption) | exact ne_mem2 (by with_reducible assumption) (by with_reducible assumption))
  k_with "wpAt" => ((fail_if_success ks_step "execs cons"); dsimp only; ks_step "execs cons"; refine ks_wpAt_execs_cons ?_)
  k_with "wpAt" => (ks_step "eval Call"; k_dflt (refine ks_wpAt_MethodCall ?_))
  k_with "k_ne" => (first | exact ne_mem1 (by with_reducible assumption) (by with_reducible assumption) | exact ne_mem1 (And.right (by with_reducible assumption)) (by with_reducible assumption) | exact ne_mem1 (And.right (And.right (by with_reducible assumption))) (by with_reducible assumption) | exact ne_mem1 (And.right (And.right (And.right (by with_reducible assumption)))) (by with_reducible assumption) | exact ne_mem1 (And.right (And.right (And.right (And.right (by with_reducible assumption))))) (by with_reducible assumption) | exact ne_mem1 (And.right (And.right (And.right (And.right (And.right (by with_reducible assumption)))))) (by with_reducible assumption) | exact ne_mem1 (And.right (And.right (And.right (And.right (And.right (And.right (by with_reducible assumption))))))) (by with_reducible assumption))
  k_with "k_mem" => (first | with_reducible assumption | with_reducible exact List.Mem.head _ | with_reducible exact List.Mem.tail _ (by assumption) | with_reducible exact List.Mem.tail _ (List.Mem.tail _ (by assumption)) | with_reducible exact List.Mem.tail _ (List.Mem.tail _ (List.Mem.tail _ (by assumption))))
  k_with "k_mem" => (first | with_reducible assumption | with_reducible exact List.Mem.head _ | (with_reducible refine List.mem_cons_of_mem _ ?_; k_mem))
  k_with "binaryOp Mult ref int" => (k_here; k_dflt (refine mul_K (by k_asm) (by k_asm) (by k_mem) (by assumption) (by (first | lia | omega)) ?_; k_whole; intro q' h' F' N' l1; (try k_lt l1); revert q' h' F' N' l1; intros))
  k_with "call builtin:list.extend" => (k_here; k_dflt (refine ext_K (by k_asm) (by k_asm) (by k_mem) (by k_updF) (by walk_at "zo") (by (walk_at "zo")) ?_; k_whole; intro h' n' F' N'; (try dsimp only at N'); revert h' n' F' N'; intros))
  k_with "call builtin:list.append" => (k_here; k_dflt (refine app_K (by k_asm) (by k_asm) (by first | solve_by_elim | k_updF) (by (walk_at "zo")) ?_; k_whole; intro h' n' F' N'; (try dsimp only at N'); revert h' n' F' N'; intros))
  k_with "loadName" => (refine wpAny_loadName_local (by exact rfl) (by exact rfl) (by exact Fr.ns (by assumption)) (by ((repeat (first | (refine Eq.trans (ite_off ?_) ?_; focus decide) | (refine Eq.trans (upd_off ?_) ?_; focus decide))); first | with_reducible assumption | exact if_pos rfl | exact upd_on)) ?_; k_whole)
  k_with "subscriptTail" => (k_here; (with_reducible show wpAny _ _ (subscriptTail _ _ (Value.ref _) (Value.int _ _)) _ _ _); k_dflt (refine get_Kneg (by k_asm) (by k_mem) (by decide) (by (first | lia | omega)) (by decide) (by assumption) ?_ (by with_unfolding_all rfl); k_whole))
  k_with "subscriptTail" => (k_here; (with_reducible show wpAny _ _ (subscriptTail _ _ (Value.ref _) (Value.int _ _)) _ _ _); k_dflt (refine get_K (by k_asm) (by k_mem) (by (first | lia | omega)) (by (first | lia | omega)) (by assumption) ?_ (by with_unfolding_all rfl); k_whole))
  k_with "call builtin:len" => (k_here; (with_reducible show wpAny _ _ (call (Value.builtin _) [Value.ref _]) _ _ _); k_dflt (refine len_K (by k_asm) (by k_mem) (by (first | lia | omega)) ?_; k_whole))
  k_with "call type:tuple" => (k_here; (with_reducible show wpAny _ _ (call (Value.type _) [Value.ref _]) _ _ _); k_dflt (refine tup_K (by k_asm) (by k_asm) (by k_mem) (by (first | lia | omega)) ?_; k_whole; intros))
  k_with "compareOp NotEq ref ref" => (k_here; k_dflt (first | (refine ints_neY (by k_asm) (by k_mem) (by assumption) (by k_mem) (by assumption) (by ktr_units) ?_; k_whole) | (refine ints_neN (by k_asm) (by k_mem) (by assumption) (by k_mem) (by ktr_units) ?_; k_whole)))
  k_with "call builtin:list.pop" => (k_here; (with_reducible show wpAny _ _ (call (Value.builtin _) [Value.ref _]) _ _ _); k_dflt (refine pop_K (by k_asm) (by k_asm) (by assumption) (by k_updF) (by (first | lia | omega)) ?_; k_whole; intros))
  k_with "exec While" => (refine While_go ?_)
  k_with "eval ListComp" => (k_here; k_dflt (refine ListComp_G (F₀ := by k_asm) (by with_unfolding_all rfl) (by rfl) (by decide) ?_))
  k_with "exec Assign cons ListComp" => (k_here; k_dflt (refine Assign_ListComp_G (F₀ := by k_asm) (by rfl) (by with_unfolding_all rfl) (by with_unfolding_all rfl) (by rfl) (by decide) (by rfl) (by rfl) ?_))
  k_with "subscriptTail" => (k_here; (with_reducible show wpAny _ _ (subscriptTail _ _ (Value.ref _) (Value.int 1 _)) _ _ _); k_dflt (refine get_TK (k := 1) (by k_asm) (by k_mem) (by assumption) (by exact Nat.le_of_ble_eq_true rfl) ?_; k_whole))
  k_with "truthy str" => (k_here; (with_reducible show wpAny _ _ (PySem.truthy (Value.str _ _)) _ _ _); (refine KXt.truthy (by assumption) (by (first | lia | omega)) ?_; k_whole); intro _)
  k_with "compareOp NotEq str str" => (k_here; k_dflt (refine' ne_same ?_; k_whole))
  k_with "subscriptTail" => (k_here; (with_reducible show wpAny _ _ (subscriptTail _ _ (Value.ref _) (Value.int 0 _)) _ _ _); k_dflt (refine get_TK (k := 0) (by k_asm) (by k_mem) (by assumption) (by exact Nat.le_of_ble_eq_true rfl) ?_; k_whole))
  k_with "eval ListComp" => (k_here; k_dflt (first | ((with_reducible show wpAny _ _ (eval (Expr.ListComp _ (_ :: []) _ _) _) _ _ _); refine ListComp_G (F₀ := by k_asm) (by with_unfolding_all rfl) (by rfl) (by decide) ?_) | ((with_reducible show wpAny _ _ (eval (Expr.ListComp _ (_ :: _ :: []) _ _) _) _ _ _); refine ListComp_N (F₀ := by k_asm) (by with_unfolding_all rfl) (by rfl) (by decide) ?_)))
  k_with "call builtin:max" => (k_here; (with_reducible show wpAny _ _ (call (Value.builtin _) [Value.ref _]) _ _ _); k_dflt (refine maxN_K (by k_asm) (by k_asm) (by k_mem) (by assumption) (by (first | lia | omega)) (by rfl) ?_; k_whole; intros))
  k_with "call builtin:sum" => (k_here; (with_reducible show wpAny _ _ (call (Value.builtin _) [Value.ref _]) _ _ _); k_dflt (refine sumN_K (by k_asm) (by k_asm) (by k_mem) (by assumption) (by rfl) ?_; k_whole; intros))
  k_with "binaryOp Add ref ref" => (k_here; k_dflt (refine add_K (by k_asm) (by k_asm) (by k_mem) (by k_mem) (by (first | lia | omega)) (by first | (simp; done) | (first | lia | omega)) ?_; k_whole; intros))
  k_with "call ref" => (k_here; k_dflt ((with_reducible show wpAny _ _ (call (Value.ref 308) _ _) _ _ _); (refine folded (by k_asm) (by k_asm) (by k_asm) (by k_asm) (by k_asm) (by first | exact rfl | assumption) (by ktr_room) (by ktr_units) (by assumption) (by assumption) (by k_mem) (by assumption) (by assumption) (by assumption) (by (first | lia | omega)) (by (first | lia | omega)) (by assumption) (by assumption) (by assumption) (by assumption) ?_; k_whole; intro k₁ s₁ news₁ F' N' Tn' K' G' os'; (obtain ⟨p1', p2', o1', o2', N''⟩ := rebuild (pre := [_, _]) N' Tn' K' (by assumption) (by assumption)); clear N' Tn' K'; (simp only [List.cons_append, List.nil_append] at N''); revert k₁ s₁ news₁ F' G' os' p1' p2' o1' o2' N''; intros)))
  k_with "call ref" => (k_here; k_dflt ((with_reducible show wpAny _ _ (call (Value.ref 313) _ _) _ _ _); (refine page (by k_asm) (by k_asm) (by k_asm) (by k_asm) (by k_asm) (by first | exact rfl | assumption) (by ktr_room) (by ktr_units) (by k_mem) (by assumption) (by assumption) (by assumption) (by (first | lia | omega)) (by (first | lia | omega)) (by assumption) (by exact (words_ok _ (by assumption)).2) ?_; k_whole; intros)))
  k_with "call ref" => (k_here; k_dflt ((with_reducible show wpAny _ _ (call (Value.ref 276) _ _) _ _ _); (apply makeW; walk_at "z8"; (· assumption); (· assumption); (· assumption); (· assumption); k_whole; intro pa fd T1 T2 ws a1 a2 a3 a4 a5 t1 t2 t3 t4 t5 kx kn knt kb s₁ F' N' hws hlt l1 l2 l3 hg' ho'; (have e1 := fun p hp => Nat.lt_trans (hlt p hp) l1); (have e2 := fun p hp => Nat.lt_trans (e1 p hp) l2); (have e3 := fun p hp => Nat.lt_trans (e2 p hp) l3); revert pa fd T1 T2 ws a1 a2 a3 a4 a5 t1 t2 t3 t4 t5 kx kn knt kb s₁ F' N' hws hlt l1 l2 l3 hg' ho' e1 e2 e3; intros)))
  k_with "call ref" => (k_here; k_dflt ((with_reducible show wpAny _ _ (call (Value.ref 325) _ _) _ _ _); (apply norm; walk_at "z8"; (· k_mem); (· (first | lia | omega)); (· (first | lia | omega)); (· assumption); (· assumption); (· assumption); (· assumption); k_whole; intros)))
  k_with "call ref" => (k_here; k_dflt ((with_reducible show wpAny _ _ (call (Value.ref 320) _ _) _ _ _); (apply read; walk_at "z8"; (· (first | lia | omega)); (· (first | lia | omega)); k_whole; intros)))
  k_with "call ref" => (k_here; k_dflt ((with_reducible show wpAny _ _ (call (Value.ref 245) _ _) _ _ _); (apply indent_z; walk_at "z8"; (· exact pow_tm); (· exact WsL.mono (by assumption) (fun y hy => by repeat (first | exact hy | apply List.mem_cons_of_mem))); (· exact (pow_le (by assumption)).1); (· exact Nat.le_trans (pow_le (by assumption)).2 (by decide)); k_whole; intros)))
  k_with "compareOp NotEq int int" => (k_here; k_dflt (refine ne_int_same (by assumption) ?_; k_whole))
  k_with "compareOp NotEq ref ref" => (k_here; k_dflt (refine strs_same (by k_asm) (by k_mem) (by assumption) (by k_mem) (by assumption) (by assumption) (by ktr_units) ?_; k_whole))
  k_with "compareOp NotEq ref ref" => (k_here; k_dflt (refine norm_same (by k_asm) (by k_mem) (by k_mem) (by assumption) (by k_mem) (by k_mem) (by assumption) (by assumption) (by ktr_units) ?_; k_whole))
  k_with "call ref" => (k_here; k_dflt ((with_reducible show wpAny _ _ (call (Value.ref 273) _ _) _ _ _); (apply not_less; walk_at "z8"; (· with_reducible assumption); (· with_reducible assumption); k_whole; intro al vs c s₁ news₁ F' N' hsub hal hT hg hos; (have N9 := cb_drop N' hsub); revert al vs c s₁ news₁ F' N' hsub hal hT hg hos N9; intros)))
  k_with "call ref" => (k_here; k_dflt ((with_reducible show wpAny _ _ (call (Value.ref 259) _ _) _ _ _); (apply not_eq; walk_at "z8"; (· with_reducible assumption); (· with_reducible assumption); k_whole; intro al vs c s₁ news₁ F' N' hsub hal hT hg hos; (have N9 := cb_drop N' hsub); revert al vs c s₁ news₁ F' N' hsub hal hT hg hos N9; intros)))
  k_with "call ref" => (k_here; k_dflt ((with_reducible show wpAny _ _ (call (Value.ref 252) _ _) _ _ _); (apply equal_b; walk_at "z8"; (· first | with_reducible assumption | exact WsL.mono (by with_reducible assumption) (fun y hy => by repeat (first | exact hy | apply List.mem_cons_of_mem))); (· first | with_reducible assumption | exact WsL.mono (by with_reducible assumption) (fun y hy => by repeat (first | exact hy | apply List.mem_cons_of_mem))); (· with_reducible assumption); k_whole; intros)))
  k_with "call ref" => (k_here; k_dflt ((with_reducible show wpAny _ _ (call (Value.ref 266) _ _) _ _ _); (apply less_b; walk_at "z8"; (· first | with_reducible assumption | exact WsL.mono (by with_reducible assumption) (fun y hy => by repeat (first | exact hy | apply List.mem_cons_of_mem))); (· first | with_reducible assumption | exact WsL.mono (by with_reducible assumption) (fun y hy => by repeat (first | exact hy | apply List.mem_cons_of_mem))); (· with_reducible assumption); k_whole; intros)))
  k_with "compareOp NotEq ref ref" => (k_here; k_dflt (refine trips_same (by with_reducible assumption) (by with_reducible assumption) (by with_reducible assumption) (by with_reducible assumption) (by with_reducible assumption) (by with_reducible assumption) (by with_reducible assumption) (by ktr_units) ?_; k_whole))
  k_with "compareOp Eq ref ref" => (k_here; k_dflt (refine trips_none (by k_asm) (by k_mem) (by k_mem) (by with_reducible assumption) (by exact fun y hy => by repeat (first | exact hy | apply List.mem_cons_of_mem)) (by with_reducible assumption) (by ktr_units) ?_; k_whole))
  k_with "compareOp Is bool bool" => (k_here; k_dflt (refine' is_bb ?_; k_whole))
  k_with "compareOp IsNot bool bool" => (k_here; k_dflt (refine' isnot_bb ?_; k_whole))
  k_with "call builtin:len" => ((with_reducible show wpAny _ _ (call (Value.builtin _) [Value.str _ _]) _ _ _); refine len_str (by (first | lia | omega)) ?_)
  k_with "eval Name" => (k_here; k_dflt (first | (refine nameX_K (by k_asm) (by k_asm) (by k_asm) (by k_is) ?_ (by rfl) (by rfl); k_whole) | (refine nameX_B (by k_asm) (by k_asm) (by k_asm) (by k_is) (by boot_fast) (by decide) ?_ (by rfl) (by rfl); k_whole)))
  k_with "eval Name" => ((first | ((with_reducible show wpAny _ _ (eval (Expr.Name _ _) (envOf _ _ _ _ _)) _ _ _); refine ld (by assumption) (by walk_at "zv") ?_) | ((with_reducible show wpAny _ _ (eval (Expr.Name _ _) (envOfC _ _ _ _ _)) _ _ _); refine ldC (by assumption) (by walk_at "zv") ?_)); k_whole)
  k_with "eval Name" => ((with_reducible show wpAny _ _ (eval (Expr.Name (Str.ofString "leads") _) (envOfC _ _ _ _ _)) _ _ _); refine ldCell (by k_asm) (by exact rfl) (by k_mem) (by assumption) ?_; k_whole)
  k_with "eval Name" => ((with_reducible show wpAny _ _ (eval (Expr.Name (Str.ofString "counts") _) (envOfC _ _ _ _ _)) _ _ _); refine ldCell (by k_asm) (by exact rfl) (by k_mem) (by assumption) ?_; k_whole)
  k_with "eval Name" => ((with_reducible show wpAny _ _ (eval (Expr.Name (Str.ofString "times") _) (envOfC _ _ _ _ _)) _ _ _); refine ldCell (by k_asm) (by exact rfl) (by k_mem) (by assumption) ?_; k_whole)
  k_with "exec For" => (refine For_loop ?_ (by intro _; with_unfolding_all rfl))
  k_with "exec For Name Call cons nil" => (refine For_loop ?_ (by intro _; with_unfolding_all rfl))
  k_with "exec For Name Name cons nil" => (refine For_loop ?_ (by intro _; with_unfolding_all rfl))
  k_with "exec For Name Attribute cons nil" => (refine For_loop ?_ (by intro _; with_unfolding_all rfl))
  k_with "execs cons" => (first | (k_here; k_gentoks) | ((try (rename Flow → Shared → Prop => qq; clear qq)); (try (rename Value → Shared → Prop => qq; clear qq)); refine wpAny_execs_cons ?_; (try dsimp only); k_fold))
  k_with "subscriptTail Name Name ref int" => (k_extra "subscriptTail")
  k_with "subscriptTail Name Constant ref int" => (k_extra "subscriptTail")
  k_with "subscriptTail Name UnaryOp ref int" => (k_extra "subscriptTail")
  k_with "subscriptTail Name BinOp ref int" => (k_extra "subscriptTail")
  k_with "subscriptTail Subscript Name Name Constant ref int" => (k_extra "subscriptTail")
  k_with "subscriptTail Subscript Name Constant BinOp ref int" => (k_extra "subscriptTail")
  k_with "subscriptTail Subscript Name Constant Constant ref int" => (k_extra "subscriptTail")
  trivial
theorem agree : ∀ {w : World} {loose : List Str} {mean : ExcName → Option Value} {mg mb : Str → Option Value} {dp un : Nat} {gd : Option (List Code)} {cn : Str} {cs : Scope} {a : Addr} {ccd : Value} {cl : List (Str × Addr)} {outer : List Env} {A₀ : Around} {base h₀ : Heap} {L : Addr} {m : Str → Option Value} {s : Shared} {Q E : Value → Shared → Prop} {ld a0 a1 la lb nl n0 n1 q0 q1 : Nat} {k0 k1 kl ks : Tok} {vs0 vs1 p1 p2 : Array Value} {rs0 rs1 : List Nat} {slack : Int} {sg word : Str} {R0 : List (Addr × Obj)}
  (B : Below A₀ base outer h₀) (F : Fr h₀ L s.heap m) (X : (fr.heap_1 w.params).In h₀) (N : News h₀ L s.heap ((140, tableObj p1) :: (147, tableObj p2) :: R0)) (T : Top topProg loose mean mg mb h₀) (hk : cs.kind = .function) (hdp : dp + 100 < recursionLimit) (hun : un + 1000 < cLine) (o1 : TabOk pos1 p1) (o2 : TabOk pos2 p2) (hnd : ((140 : Addr) :: 147 :: R0.map (·.1)).Nodup) (G : AllBare s.gens) (h0 : (ld, listOf #[.ref a0, .ref a1] nl) ∈ R0) (ha0 : (a0, tupOf #[.ref la, .int (q0 : Int) k0]) ∈ R0) (ha1 : (a1, tupOf #[.ref lb, .int (q1 : Int) k1]) ∈ R0) (hl0 : (la, listOf vs0 n0) ∈ R0) (hl1 : (lb, listOf vs1 n1) ∈ R0) (hv0 : IntsL vs0 rs0) (hv1 : IntsL vs1 rs1) (hr0 : rs0 ∈ allRuns) (hr1 : rs1 ∈ allRuns) (hq0 : q0 < 5) (hq1 : q1 < 5) (hsg : (sg, word) ∈ signs) (hret : ∀ (s₁ : Shared) nw u1 u2, Fr h₀ L s₁.heap m → News h₀ L s₁.heap nw → (140, tableObj u1) ∈ nw → (147, tableObj u2) ∈ nw → AllBare s₁.gens → s₁.os = s.os → Q (.bool true) s₁),
  wpAny (model PySem.Challenge.rw_wu0100_01.row.prog w) (ktrTop dp un gd cn cs L a ccd cl outer) (call (.ref 330) [.ref ld, .str sg ks, .int slack kl]) Q E s := by
  k_fill
  intro w loose mean mg mb dp un gd cn cs a ccd cl outer A₀ base h₀ L m s Q E ld a0 a1 la lb nl n0 n1 q0 q1 k0 k1 kl ks vs0 vs1 p1 p2 rs0 rs1 slack sg word R0 B F X N T hk hdp hun o1 o2 hnd G h0 ha0 ha1 hl0 hl1 hv0 hv1 hr0 hr1 hq0 hq1 hsg hret
  refine wpAny_call ?_
  k_dflt (refine' code_defC ?k1 ?k2 ?k3 ?k4 ?k5 ?kA ?kF ?kK ?k6 ?k7 ?k8 ?k9 ?kB ?kD ?_ ?c2 ?c3 ?c4; (case kA => exact rfl); (case kF => exact rfl); (case kK => first | exact rfl | assumption); (case k1 => k_asm); (case k2 => k_asm); (case k3 => k_asm); (case k4 => k_asm); (case k5 => k_asm); (case k6 => k_is); (case k7 => k_is); (case k8 => ktr_room); (case k9 => exact BindsTo.of_eq rfl); (case kB => exact rfl); (case kD => decide +kernel); (case c2 => exact rfl); (case c3 => exact rfl); (case c4 => exact rfl); k_whole; intro g' L' h' tk' cells' FG' F' N' Y' B' X' T' l1; (have hoff := offc3 l1); (try k_lt l1); k_cells Y'; (try simp only [List.cons_append, List.nil_append] at N'); (try dsimp only); (try k_lift B'); (try k_fold))
  obtain ⟨M0', ⟨f1, f2⟩, F0⟩ := fr_gen (P := fun M => M (Str.ofString "sign") = some (.str sg ks) ∧ M (Str.ofString "slack") = some (.int slack kl)) F' ⟨rfl, rfl⟩
  clear F'
  rename_i c3 c2 c1 dc3 dc2 dc1
  have e1 : c1.data = .cell (some (.ref ld)) := dc1
  have e2 : c2.data = .cell none := dc2
  have e3 : c3.data = .cell none := dc3
  clear dc1 dc2 dc3
  have hR2 : ∀ y ∈ R0, y ∈ (L' + 1 + 1 + 1, c3) :: (L' + 1 + 1, c2) :: (L' + 1, c1) :: (140, tableObj p1) :: (147, tableObj p2) :: R0 := fun y hy => .tail _ (.tail _ (.tail _ (.tail _ (.tail _ hy))))
  k_steps
  refine nest_list (ks := fun i => if i = 0 then rs0 ++ [q0] else rs1 ++ [q1]) (by rfl) (by rfl) (by rfl) (by decide) (by decide) (by rfl) (by rfl) (by decide) (hR2 _ h0) (by simp) F0 N' ?_ ?_ ?_ (by intro _ _; rfl) ?_
  · intro i v hi hv
    have h2 : i = 0 ∨ i = 1 := by simp at hi; (first | lia | omega)
    rcases h2 with rfl | rfl
    · cases hv; exact ⟨_, _, _, _, rfl, hR2 _ ha0⟩
    · cases hv; exact ⟨_, _, _, _, rfl, hR2 _ ha1⟩
  · intro i
    have e0 := (allRuns_lt _ hr0).2
    have e1 := (allRuns_lt _ hr1).2
    split <;> simp <;> (first | lia | omega)
  · intro i v v₁ v₂ m₂ s₁ I oI C oC D oD E' hi hv ht hm1 hm2 F2 N2 hC hg ho
    refine top_of hi hv ht (cb_drop N2 fun p hp => .tail _ (.tail _ hp)) (fun y hy => .tail _ (hR2 y hy)) ha0 ha1 hl0 hl1 hv0 hv1 hr0 hr1 ?_
    intro lj nj qj kj vsj rsj e₁ e₂ hlj hz hvj hks
    subst e₁ e₂
    clear N' F0 hR2 h0 ha0 ha1 hl0 hl1 ht
    k_steps
    rename ∀ (p : Addr × Obj), p ∈ _ → _ => hlt9
    rename News _ _ _ _ => N9
    exact ⟨_, _, _, rfl, by assumption, cb_drop N9 (mem_drop (pre := [_])), fun p hp => Nat.ne_of_lt (hlt9 p (.tail _ hp)), by rw [hks]; exact hvj.app (IntsL.one rfl), hg, ho⟩
  · intro D ys s' hys hg ho
    unfold FinGE
    intro h8 F8 N8 hD
    rw [show LCg.lst ys = listOf ys.toArray ys.length from rfl] at N8
    have hys2 : IntsL ys.toArray (rs0 ++ [q0] ++ (rs1 ++ [q1])) := intsAre_L (by simpa [List.range_succ] using hys)
    have htop := top_max hr0 hr1 hq0 hq1
    have hlp : 0 < (rs0 ++ [q0] ++ (rs1 ++ [q1])).length := by simp only [List.length_append, List.length_singleton]; (first | lia | omega)
    have hDc : @Ne Nat D (L' + 1 + 1) := Ne.symm (hD _ (.tail _ (.head _)))
    have hg' : s'.gens = s.gens := hg
    have ho' : s'.os = s.os := ho
    clear hys N' F0 hg ho
    k_steps
    rename_i h01 tk01 t01 h02 ac0 h03 lt0 ac1 h04 lt1 acl h05 lt2 h06 c2n F5 N5 e2n h07 tk07 t07 u07 v07 A3 A2 A1 A0
    have htl : (1 : Int) + ((rs0 ++ [q0] ++ (rs1 ++ [q1])).foldl max 0 : Nat) = (topN rs0 q0 rs1 q1 : Int) := by rw [← htop]; push_cast; (first | lia | omega)
    rw [htl] at A3 A2
    have ht5 := topN_le hr0 hq0 hr1 hq1
    refine t_start (c2' := c2) A1 l1 lt0 lt1 lt2 hnd ?_
    intro XT YT hYT s1 s2 s3 sR hkT N9
    have hYX : ∀ y ∈ XT, y ∈ YT := fun y hy => by rw [hYT]; exact .tail _ hy
    replace h0 := sR _ h0
    replace ha0 := sR _ ha0
    replace ha1 := sR _ ha1
    replace hl0 := sR _ hl0
    replace hl1 := sR _ hl1
    clear F5 N5 A1 A0 hD hDc hlp hys2 htl lt0 lt1 lt2 l1 sR hnd
    refine' loop_range (L := L') (n := topN rs0 q0 rs1 q1) (I := fun k => InvA (upN rs0 k) (upN rs1 k) (topN rs0 q0 rs1 q1) sg ks slack kl ac0 ac1 YT s.os) A3 (size_ab (by (first | lia | omega))) (small_ab (n := topN rs0 q0 rs1 q1) (by (first | lia | omega)) (by (first | lia | omega)) (by (first | lia | omega))) rfl rfl rfl rfl A2 N9 ?h0 ?hb ?hQ
    case h0 =>
      refine fun _ K => K p1 p2 #[] 0 #[] 0 _ rfl o1 o2 ⟨rfl, fun i hi => by simp [upN] at hi⟩ ⟨rfl, fun i hi => by simp [upN] at hi⟩ ?_ ?_ (if_pos rfl) (by rw [hg']; exact G) ho'
      all_goals ((repeat (refine Eq.trans (if_neg ?_) ?_; focus decide)); assumption)
    case hb =>
      clear A3 A2 N9 o1 o2 f1 f2
      intro it k rest m₁ s₁ tkI o' E' hit hk5 hc hI1 hne F7 N7
      try k_fold
      refine hI1 _ ?_
      intro p1q p2q w0q m0q w1q m1q kp hrest o1 o2 hw0 hw1 p3 p4 p5 hg hos
      subst hrest
      rw [show ((1 : Int) + (k : Int) * 1) = ((1 + k : Nat) : Int) by (first | lia | omega)] at F7
      clear hit hc hI1
      k_steps
      rename_i F7 qx ex N7 h12 tk13 t13 u13 v13 A3 A2 A1 A0
      clear A0
      refine' loop_range (L := L') (n := 2) (I := fun j rest m₂ g o => InvA (upN rs0 (k + if 0 < j then 1 else 0)) (upN rs1 (k + if 1 < j then 1 else 0)) (topN rs0 q0 rs1 q1) sg ks slack kl ac0 ac1 ((it, o') :: YT) s.os rest m₂ g o ∧ m₂ (Str.ofString "t") = some (.int ((1 + k : Nat) : Int) tkI)) A3 (by decide) (by decide) rfl rfl rfl rfl A2 (cb_drop A1 (mem_mid' (pre := [_, _, _, _]))) ?i0 ?ib ?iQ
      case i0 =>
        exact ⟨fun _ K => K p1q p2q w0q m0q w1q m1q kp rfl o1 o2 hw0 hw1 p3 p4 p5 hg hos, if_pos rfl⟩
      case ib =>
        clear A3 A2 A1 F7 N7 o1 o2 hw0 hw1 p3 p4 p5 hg hos
        intro it2 j rest m₂ s₂ tk2 o2' E2 hit2 hj hc2 hI1 hne2 F7 N7
        try k_fold
        have p6 := hI1.2
        refine hI1.1 _ ?_
        intro p1 p2 w0 m0 w1 m1 kp hrest o1 o2 hw0 hw1 p3 p4 p5 hg hos
        subst hrest
        refine which_of (k := k) (p1 := p1) (p2 := p2) (m0 := m0) (m1 := m1) hj (hYX _ ha0) (hYX _ ha1) (hYX _ hl0) (hYX _ hl1) hv0 hv1 hr0 hr1 (by (first | lia | omega)) hw0 hw1 hsg hkT (ne_keys hne rfl) hne2 N7 ?_
        intro aj lj nj qj acj mj kj vsj wj rsj wd Z x1 x2 x3 x4 x5 x6 x7 x8 x9 hWo hwd hrd N8 xE
        have y1 := x8 _ (hYX _ s3)
        have y2 := x8 _ (hYX _ s2)
        have y3 := x8 _ (hYX _ s1)
        have y4 := x8 _ (hYX _ h0)
        have hTn : TabsIn ((it2, o2') :: (acj, listOf wj mj) :: (140, tableObj p1) :: (147, tableObj p2) :: Z) := ⟨x9, ⟨p1, .tail _ (.tail _ (.head _)), o1⟩, ⟨p2, .tail _ (.tail _ (.tail _ (.head _))), o2⟩⟩
        obtain ⟨hpre, hpost⟩ := pre_ne (pre := [(it2, o2'), (acj, listOf wj mj)]) (u := tableObj p1) (v := tableObj p2) (post := Z) x9 rfl
        have hU : ∀ p1 p2, UpdF acj (listOf wj mj) ((it2, o2') :: (acj, listOf wj mj) :: (140, tableObj p1) :: (147, tableObj p2) :: Z) (fun o'' => (it2, o2') :: (acj, o'') :: (140, tableObj p1) :: (147, tableObj p2) :: Z) := fun p1 p2 => upd_mid (pre := [(it2, o2')]) (post := (140, tableObj p1) :: (147, tableObj p2) :: Z) x9 rfl
        have hr4 := runs_le x5
        have hrl := (allRuns_lt _ x5).2
        have hsgl := sign_len hsg
        have ht1' : 1 ≤ 1 + k := by (first | lia | omega)
        have ht5' : 1 + k ≤ 5 := by (first | lia | omega)
        have hx2 : (#[.ref lj, .int (qj : Int) kj] : Array Value)[0]? = some (.ref lj) := rfl
        have hcnt := page_count (q := word) (sign_free (sg, word) hsg).2 (1 + k) rsj
        have hpl := page_len (q := word) (words_ok (sg, word) hsg).2.h6 ht1' ht5' hr4 hrl
        obtain ⟨bb, hbb⟩ : ∃ b, (((pageL word (1 + k) rsj).length : Int) != 0) = b := ⟨_, rfl⟩
        have hwz : wj.size ≤ 5 := by rw [x7.1]; simp [upN]; (first | lia | omega)
        rw [show ((0 : Int) + (j : Int) * 1) = ((j : Nat) : Int) by (first | lia | omega)] at F7
        clear hit2 hc2 hI1 N7 hw0 hw1 hne hne2 hkT hv0 hv1 ha0 ha1 hl0 hl1 h0 s1 s2 s3 hYX hYT x8 x9
        k_steps
        · rename_i hA kA sA nA GA osA pA1 pA2 oA1 oA2 hB FB NB tkB kB sB FC NC gC osC kC aC hD nD FD ND
          rw [aC] at hbb
          refine xE hD pA1 pA2 _ nD (by rw [show upN rsj (k + 1) = upN rsj k ++ [rowsN (1 + k) rsj] by simp [upN_succ, Nat.add_comm]]; exact x7.push (by rw [hcnt]; have := rowsN_pos (1 + k) (rs := rsj) (fun e => by subst e; simp [page_nil] at hbb); (first | lia | omega))) ND _ ?_
          intro w0' m0' w1' m1' i0 i1 hdr N99
          refine ⟨_, _, .head _, ⟨fun _ K => K pA1 pA2 w0' m0' w1' m1' kp hdr oA1 oA2 i0 i1 ?_ ?_ ?_ ?_ ?_, ?_⟩, FD, N99⟩
          · (repeat (refine Eq.trans (if_neg ?_) ?_; focus decide)); exact p3
          · (repeat (refine Eq.trans (if_neg ?_) ?_; focus decide)); exact p4
          · (repeat (refine Eq.trans (if_neg ?_) ?_; focus decide)); exact p5
          · show AllBare sB.gens
            rw [gC]; exact GA
          · exact osC.trans (osA.trans hos)
          · (repeat (refine Eq.trans (if_neg ?_) ?_; focus decide)); exact p6
        · rename_i hA kA sA nA GA osA pA1 pA2 oA1 oA2 hB FB NB tkB kB sB FC NC gC osC kC aC hD nD FD ND
          have hbb : (((pageL word (1 + k) rsj).length : Int) != 0) = false := by rw [hbb]; simpa using aC
          refine xE hD pA1 pA2 _ nD (by rw [show upN rsj (k + 1) = upN rsj k ++ [rowsN (1 + k) rsj] by simp [upN_succ, Nat.add_comm]]; exact x7.push (by have e : rsj = [] := page_none ht1' hbb; rw [e]; rfl)) ND _ ?_
          intro w0' m0' w1' m1' i0 i1 hdr N99
          refine ⟨_, _, .head _, ⟨fun _ K => K pA1 pA2 w0' m0' w1' m1' kp hdr oA1 oA2 i0 i1 ?_ ?_ ?_ ?_ ?_, ?_⟩, FD, N99⟩
          · (repeat (refine Eq.trans (if_neg ?_) ?_; focus decide)); exact p3
          · (repeat (refine Eq.trans (if_neg ?_) ?_; focus decide)); exact p4
          · (repeat (refine Eq.trans (if_neg ?_) ?_; focus decide)); exact p5
          · show AllBare sB.gens
            rw [gC]; exact GA
          · exact osC.trans (osA.trans hos)
          · (repeat (refine Eq.trans (if_neg ?_) ?_; focus decide)); exact p6
      case iQ =>
        clear A3 A2 A1 o1 o2 hw0 hw1 p3 p4 p5 hg hos
        intro rest m₂ s₂ hI1 F9 N9
        try k_fold
        refine hI1.1 _ ?_
        intro p1 p2 w0 m0 w1 m1 kp hrest o1 o2 hw0 hw1 p3 p4 p5 hg hos
        subst hrest
        try dsimp only
        k_steps
        exact ⟨(it, o') :: (140, tableObj p1) :: (147, tableObj p2) :: (ac0, listOf w0 m0) :: (ac1, listOf w1 m1) :: YT, m₂, .head _, fun _ K => K p1 p2 w0 m0 w1 m1 kp (dropL_head (ne_keys hne rfl)) o1 o2 hw0 hw1 p3 p4 p5 hg hos, F9, cb_drop N9 (mem_mid (pre := [_, _, _, _]))⟩
    case hQ =>
      clear A3 A2 N9 o1 o2 f1 f2
      intro rest m₁ s₁ hI1 F7 N7
      try k_fold
      refine hI1 _ ?_
      intro p1 p2 w0 m0 w1 m1 kp hrest _ _ hw0 hw1 p3 _ p5 hg hos
      subst hrest
      have hpk := peak_lt hr0 hr1 hq0 hq1
      try dsimp only
      k_steps
      rename_i an h31 lta h32 F35 N35 h33 tk33 t33 u33 v33 A3 A2 A1 A0
      refine nan_start A1 hYT hkT lta ?_
      intro X0 m140 m147 hc0 hc1 hX1 hX0 q8 N9
      replace h0 := hX1 _ h0
      replace ha0 := hX1 _ ha0
      replace ha1 := hX1 _ ha1
      replace hl0 := hX1 _ hl0
      replace hl1 := hX1 _ hl1
      replace s1 := hX1 _ s1
      replace s2 := hX1 _ s2
      replace s3 := hX1 _ s3
      clear F35 N35 A1 A0 lta hkT hYX hX1 hYT hI1
      refine' loop_range (L := L') (n := 2) (I := InvN rs0 q0 rs1 q1 (topN rs0 q0 rs1 q1) sg ks L' an X0 s.os) A3 (by decide) (by decide) rfl rfl rfl rfl A2 N9 ?n0 ?nb ?nQ
      case n0 =>
        refine fun _ K => K #[] 0 X0 c3 none kp rfl e3 (fun y hy => hy) hX0 (.inl ⟨rfl, rfl⟩) ?_ (if_pos rfl) ?_ hg hos
        all_goals ((repeat (refine Eq.trans (if_neg ?_) ?_; focus decide)); assumption)
      case nb =>
        clear A3 A2 N9 p3 p5 hg hos e3
        intro it j rest m₂ s₂ tk o' E' hit hj hc hI1 hne F7 N7
        try k_fold
        refine hI1 _ ?_
        intro nv nc X c3x vt kp hrest hcd hsub hoffX hN p3 p4 p5 hg hos
        subst hrest
        rw [show ((0 : Int) + (j : Int) * 1) = ((j : Nat) : Int) by (first | lia | omega)] at F7
        refine lead_ofC hj (hsub _ ha0) (hsub _ ha1) (hsub _ hl0) (hsub _ hl1) hv0 hv1 hr0 hr1 hq0 hq1 (hsub _ hc0) (hsub _ hc1) hw0 hw1 hpk hN ?_
        intro aj lj nj acj mj q kq vs w2 rs x1 x2 x3 x4 x5 x6 x7 x8 x9 x10 x11 x12
        have x13 := hsub _ h0
        have x14 := hsub _ s3
        have x15 := hsub _ s2
        have x16 := hsub _ s1
        clear hit hc hN ha0 ha1 hl0 hl1 hv0 hv1 hw0 hw1 h0 hX0 m140 m147 hc0 hc1 s1 s2 s3 hpk hI1
        have hf := lead_facts0 rs x5
        have hr9 := (allRuns_lt rs x5).1
        have hvz : vs.size ≤ 2 := by rw [x4.1]; exact (allRuns_lt rs x5).2
        have hql := spc_len q (List.mem_range.2 x6)
        have hsgl := sign_len hsg
        k_steps
        rename_i h41 h42 h43 F43 N43
        refine comp_list (B := fun _ v m₃ => m₃ (Str.ofString "run") = some v) (l := lj) (vs := vs) (c := nj) (fun i ys nw g o => nw = (it, o') :: (an, listOf nv nc) :: (L' + 1 + 1 + 1, c3x) :: X ∧ StrsAre ys ((rs.take i).map fun (r : Nat) => Txt.mul SPC (r : Int) ++ TABS) ∧ g = s₂.gens ∧ o = s₂.os) (fun I => binds_name (by rfl) (by rfl)) (.tail _ (.tail _ (.tail _ x3))) (Nat.le_trans hvz (by decide)) (by rfl) F43 N43 (by decide) (by rfl) (fun i ys nw g o h => by rw [h.1]; exact .tail _ (.tail _ (.tail _ x3))) (fun i ys v D nw g o _ _ _ => trivial) ⟨rfl, by simpa using StrsAre.nil, rfl, rfl⟩ (cturns_nil ?_) ?_
        · intro i ys v s₃ I oI C oC D m₃ nw E3 hi hys hP hI1 hB F8 N8 hC off ne3
          try k_fold
          refine and4 hI1 ?_
          intro hnw hys2 hg3 ho3
          subst hnw
          refine tok_at x4 hi hP ?_
          intro tk7 hi' hv7
          subst hv7
          have hr4 := hr9 _ (List.getElem_mem hi')
          have hl4 := spc_len rs[i] (List.mem_range.2 hr4)
          clear hf hql N43 F43 hI1
          k_steps
          exact ⟨_, by assumption, by assumption, off, rfl, by rw [snoc_take hi']; exact strsAre_snoc hys2, hg3, ho3⟩
        · intro D ys nw s₃ hI1
          try k_fold
          refine and4 hI1 ?_
          intro hnw hys2 hg3 ho3
          subst hnw
          rw [take_all x4.1] at hys2
          unfold FinGE
          intro h8 F8 N8 hD
          obtain ⟨hf1, hf2⟩ := hf
          k_steps
          refine join_listC ⟨_, (N8 _ (.head _)).1, rfl, _, rfl⟩ (by simpa using hys2) (by decide) (by (first | lia | omega)) (fun t8 k8 => ?_)
          have N44 : News g' L' h8 ((it, o') :: (an, listOf nv nc) :: (L' + 1 + 1 + 1, c3x) :: X) := cb_drop N8 (fun p hp => .tail _ hp)
          clear N8 hD hys2 N43 F43 hI1
          generalize hJ : Txt.join (Str.ofString "") (rs.map fun (r : Nat) => Txt.mul SPC (r : Int) ++ TABS) = J at *
          obtain ⟨z, -, hz1, hz2⟩ := sign_last (sg, word) hsg
          have hx9 : (J ++ Txt.mul (Str.ofString " ") (q : Int) ++ sg).cps.toList = preOf rs q ++ [z] := by
            have h := lead_pre x5 x6 sg
            unfold leadTxt at h
            rw [hJ] at h
            rw [h]
            congr 1
          obtain ⟨hpp1, hpp2⟩ := pre_plain x5 x6
          have hb9 : (wsRun (preOf rs q)).b = q := (n_plain0 rs x5 q (List.mem_range.2 x6)).2
          have hvs9 : IntsL w2 ((List.range (topN rs0 q0 rs1 q1)).map fun k => rowsN (k + 1) rs) := x9
          have htop1 : 1 ≤ topN rs0 q0 rs1 q1 := by unfold topN; (first | lia | omega)
          have q9 : @Ne Nat it an := Ne.symm (hne _ (.head _))
          have hoffan : OwnOff X [an] := fun p hp b hb => by cases List.mem_singleton.mp hb; exact (hoffX p hp).1
          have han : (an, listOf nv nc) ∈ (it, o') :: (an, listOf nv nc) :: (L' + 1 + 1 + 1, c3x) :: X := .tail _ (.head _)
          have hnv5 : nv.size ≤ 5 := by (first | lia | omega)
          clear hJ hf1 hvz hr9
          k_steps
          rename_i tA kA kZ kN tB kB aB tC kC aC pa fd T1 T2 ws b1 b2 b3 b4 b5 r1 r2 r3 r4 r5 r6 r7 r8 r9 sA hws hlt y1 y2 y3 gA oA e1 e2 e3 hA' hB' nB Tn wsn sB hltn hwsn gB oB Dn hC' FC NC lD hD' kD' t7 u7 v7 A3 A2 A1 A0
          refine nan_pack (a0 := (an, listOf nv nc)) A1 rfl hlt e1 e2 e3 hoffX hne q8 ?_
          intro Z Y hY hXZ z1 z2 z3 z4 hZn hZit hYc hZY N9
          have hbd := ws_bounds rs x5 q (List.mem_range.2 x6)
          have hWS1 : WsL Z pa (stOf rs q) := ⟨⟨fd, T1, T2, ws, _, b1, b2, b3, b4, b5, r1, r2, r3, r4, r5, r6, r7, r8, r9, z3, z4, z1, z2, hws⟩, hbd.1, hbd.2.1, hbd.2.2.1, hbd.2.2.2.1, hbd.2.2.2.2⟩
          have hWS : WsL Y pa (stOf rs q) := hWS1.mono hZY
          have hlj := hZY _ (hXZ _ x3)
          have hgB : AllBare sB.gens := by
            rw [gB]
            show AllBare sA.gens
            rw [gA]
            show AllBare s₃.gens
            rw [hg3]; exact hg
          have hoB : sB.os = s.os := oB.trans (oA.trans (ho3.trans hos))
          clear NC FC A1 A0 hlt e1 e2 e3 hltn lD hws hwsn gA oA gB oB kZ kN aB aC hx9 hpp1 hpp2 hoffan han q9 q8 hbd z1 z2 z3 z4 hZY
          refine' loop_rangeC (L := L') (n := 3) (cc := L' + 1 + 1 + 1) (I := fun _ => InvM Y lj q kq pa sg ks an (topN rs0 q0 rs1 q1) s.os) A3 (by decide) (by decide) rfl rfl rfl rfl rfl A2 N9 hcd hYc ?t0 ?tb ?tQ
          case t0 =>
            refine fun _ K => K kp rfl ?_ ?_ ?_ ?_ ?_ ?_ hgB hoB
            all_goals ((repeat (refine Eq.trans (if_neg ?_) ?_; focus decide)); first | exact if_pos rfl | assumption)
          case tb =>
            clear A3 A2 N9 hgB hoB hY hXZ hZn hZit hWS1 x12 hoffX hne hsub
            intro it3 tm rest m₃ s₃' tk3 o3 oc3 E3 hit3 htm hI1 hne3 hic hcd3 F9 N9
            try k_fold
            refine hI1 _ ?_
            intro kp' hrest t1 t2 t3 t4 t5 t6 hg9 ho9
            subst hrest
            rw [show ((0 : Int) + (tm : Int) * 1) = ((tm : Nat) : Int) by (first | lia | omega)] at hcd3
            clear hit3 hI1
            have hr9 := (allRuns_lt rs x5).1
            have hvz : vs.size ≤ 2 := by rw [x4.1]; exact (allRuns_lt rs x5).2
            k_steps
            refine comp_list (B := fun _ v m₃ => m₃ (Str.ofString "run") = some v) (l := lj) (vs := vs) (c := nj) (fun i ys nw g o => nw = (it3, o3) :: (L' + 1 + 1 + 1, oc3) :: Y ∧ StrsAre ys ((rs.take i).map fun (r : Nat) => qt (r / 2 ^ tm)) ∧ AllBare g ∧ o = s.os) (fun I => binds_name (by rfl) (by rfl)) (.tail _ (.tail _ hlj)) (Nat.le_trans hvz (by decide)) (by rfl) (by assumption) (by assumption) (by decide) (by rfl) (fun i ys nw g o h => by rw [h.1]; exact .tail _ (.tail _ hlj)) (fun i ys v D nw g o _ _ _ => trivial) ⟨rfl, by simpa using StrsAre.nil, hg9, ho9⟩ (cturns_nil ?_) ?_
            · intro i ys v s₄ I oI C oC D m₄ nw E4 hi hys hP hI1 hB F8 N8 hC off ne3
              try k_fold
              refine and4 hI1 ?_
              intro hnw hys2 hg4 ho4
              subst hnw
              refine tok_at x4 hi hP ?_
              intro tk7 hi' hv7
              subst hv7
              have hr4 := hr9 _ (List.getElem_mem hi')
              clear hI1
              k_steps
              rename_i k5 s5 F5 N5 g5 o5
              refine ⟨_, F5, N5, off, rfl, by rw [snoc_take hi']; exact strsAre_snoc hys2, ?_, o5.trans ho4⟩
              show AllBare s5.gens
              rw [g5]; exact hg4
            · intro D ys nw s₄ hI1
              try k_fold
              refine and4 hI1 ?_
              intro hnw hys2 hg4 ho4
              subst hnw
              rw [take_all x4.1] at hys2
              unfold FinGA
              intro h8 tk8 F8 N8 hD
              have hDr : ∀ y ∈ Y, y ∈ (it3, o3) :: (L' + 1 + 1 + 1, oc3) :: Y := fun y hy => .tail _ (.tail _ hy)
              clear hI1
              k_steps
              refine comp_list (B := fun _ v m₃ => m₃ (Str.ofString "run") = some v) (l := lj) (vs := vs) (c := nj) (fun i ys' nw g o => nw = (D, LCg.lst ys) :: (it3, o3) :: (L' + 1 + 1 + 1, oc3) :: Y ∧ StrsAre ys' ((rs.take i).map fun (r : Nat) => qt (r / 2 ^ tm)) ∧ AllBare g ∧ o = s.os) (fun I => binds_name (by rfl) (by rfl)) (.tail _ (.tail _ (.tail _ hlj))) (Nat.le_trans hvz (by decide)) (by rfl) (by assumption) (by assumption) (by decide) (by rfl) (fun i ys nw g o h => by rw [h.1]; exact .tail _ (.tail _ (.tail _ hlj))) (fun i ys v D nw g o _ _ _ => trivial) ⟨rfl, by simpa using StrsAre.nil, hg4, ho4⟩ (cturns_nil ?_) ?_
              · intro i ys' v s₅ I oI C oC D' m₄ nw E5 hi hys hP hI1 hB F8 N8 hC off ne3
                try k_fold
                refine and4 hI1 ?_
                intro hnw hys3 hg5 ho5
                subst hnw
                refine tok_at x4 hi hP ?_
                intro tk7 hi' hv7
                subst hv7
                have hr4 := hr9 _ (List.getElem_mem hi')
                have hmo : MulOk (Str.ofString "\"") (((rs[i] : Nat) : Int).fdiv ((2 : Int) ^ ((tm : Nat) : Int).toNat)) := by rw [fdiv_tm]; exact mulq_ok (Nat.lt_of_le_of_lt (Nat.div_le_self _ _) hr4)
                clear hI1
                k_steps
                have hqt : Txt.mul (Str.ofString "\"") (((rs[i] : Nat) : Int).fdiv ((2 : Int) ^ ((tm : Nat) : Int).toNat)) = qt (rs[i] / 2 ^ tm) := by rw [fdiv_tm]; exact mul_quot0 _ (List.mem_range.2 (Nat.lt_of_le_of_lt (Nat.div_le_self _ _) hr4))
                rw [hqt]
                exact ⟨_, by assumption, by assumption, off, rfl, by rw [snoc_take hi']; exact strsAre_snoc hys3, hg5, ho5⟩
              · intro D' ys' nw s₅ hI1
                try k_fold
                refine and4 hI1 ?_
                intro hnw hys3 hg5 ho5
                subst hnw
                rw [take_all x4.1] at hys3
                unfold FinGE
                intro h9 F9 N9 hD'
                rw [show LCg.lst ys = listOf ys.toArray ys.length from rfl, show LCg.lst ys' = listOf ys'.toArray ys'.length from rfl] at N9
                clear hI1
                have hok : ∀ x ∈ rs.map (fun (r : Nat) => qt (r / 2 ^ tm)), PyData.canLay0 (dS x) = true := fun x hx => by
                  obtain ⟨r, hr, rfl⟩ := List.mem_map.mp hx
                  exact qt_lay0 _ (List.mem_range.2 (Nat.lt_of_le_of_lt (Nat.div_le_self _ _) (hr9 r hr)))
                (refine WsL.elim hWS ?_; intro fd' T1' T2' ws' x' c1' c2' c3' c4' c5' u1' u2' u3' u4' u5' kx' kn' knt' kb' o1' o2' o3' o4'  o5')
                k_steps
                rename_i k5 s5 F5 N5 g5 o5
                obtain ⟨hyl, hyat⟩ := strsAre_at hys2
                have hg55 : AllBare s5.gens := by rw [g5]; exact hg5
                have ho55 : s5.os = s.os := o5.trans ho5
                have hsm := sum_small (t := 2 ^ tm) x5
                have hp2 := pow_le htm
                have hind := ind_plain (t := 2 ^ tm) x5 x6 hp2.1 (Nat.le_trans hp2.2 (by decide))
                have hnne : ((indW (2 ^ tm) (stOf rs q) : Nat) : Int) = ((2 ^ tm : Nat) : Int) * (((rs.map fun r => r / 2 ^ tm + 1).sum : Nat) : Int) + (q : Int) := by
                  rw [hind]; unfold rowsN; push_cast; rfl
                have hyl2 : ys.toArray.size ≤ 2 := by rw [List.size_toArray, hyl, List.length_map]; exact (allRuns_lt rs x5).2
                refine comp_list (B := fun _ v m₃ => m₃ (Str.ofString "name") = some v) (l := D) (vs := ys.toArray) (c := ys.length) (fun i yz nw g o => nw = (D', listOf ys'.toArray ys'.length) :: (D, listOf ys.toArray ys.length) :: (it3, o3) :: (L' + 1 + 1 + 1, oc3) :: Y ∧ IntsAre yz ((rs.take i).map fun (r : Nat) => ((r / 2 ^ tm + 1 : Nat) : Int)) ∧ g = s5.gens ∧ o = s5.os) (fun I => binds_name (by rfl) (by rfl)) (.tail _ (.head _)) (Nat.le_trans hyl2 (by decide)) (by rfl) F5 N5 (by decide) (by rfl) (fun i ys nw g o h => by rw [h.1]; exact .tail _ (.head _)) (fun i ys v D nw g o _ _ _ => trivial) ⟨rfl, .nil, rfl, rfl⟩ (cturns_nil ?_) ?_
                · intro i yz v s₆ I oI C oC D'' m₄ nw E6 hi hyz hP hI1 hB F8 N8 hC off ne3
                  try k_fold
                  refine and4 hI1 ?_
                  intro hnw hys4 hg6 ho6
                  subst hnw
                  have hi1 : i < (rs.map fun (r : Nat) => qt (r / 2 ^ tm)).length := by rw [← hyl]; simpa using hi
                  have hi' : i < rs.length := by simpa using hi1
                  obtain ⟨tk7, e7⟩ := hyat i hi1
                  have e8 : v = .str (qt (rs[i] / 2 ^ tm)) tk7 := by
                    have e9 : ys.toArray[i]? = some v := hP
                    rw [List.getElem?_toArray, e7] at e9
                    simpa using e9.symm
                  subst e8
                  have hql9 := qt_len (rs[i] / 2 ^ tm)
                  have hqs9 : rs[i] / 2 ^ tm ≤ rs[i] := Nat.div_le_self _ _
                  have hr4 := hr9 _ (List.getElem_mem hi')
                  clear hnne hind F5 N5 hsm
                  k_steps
                  exact ⟨_, by assumption, by assumption, off, rfl, by rw [snoc_take hi', hql9]; exact intsAre_snoc hys4, hg6, ho6⟩
                · intro D'' yz nw s₆ hI1
                  try k_fold
                  refine and4 hI1 ?_
                  intro hnw hys4 hg6 ho6
                  subst hnw
                  rw [List.take_of_length_le (by rw [List.size_toArray, hyl, List.length_map]; exact Nat.le_refl _)] at hys4
                  have hi6 : IntsL yz.toArray (rs.map fun r => r / 2 ^ tm + 1) := intsAre_L (by rw [List.map_map]; exact hys4)
                  unfold FinGE
                  intro h10 F10 N10 hD''
                  rw [show LCg.lst yz = listOf yz.toArray yz.length from rfl] at N10
                  rw [pow_tm]
                  clear F5 N5 F9 N9 hys4 hys3 hys2 hok
                  k_steps
                  rename_i hZ kZ tZ FZ NZ
                  refine ⟨Y, _, oc3, _, hne3, hcd3, fun _ K => K kp' rfl ?_ ?_ ?_ ?_ ?_ ?_ ?_ (ho6.trans ho55), FZ, cb_drop NZ (fun p hp => .tail _ (.tail _ (.tail _ hp)))⟩
                  · (repeat (refine Eq.trans (upd_off ?_) ?_; focus decide)); exact t1
                  · (repeat (refine Eq.trans (upd_off ?_) ?_; focus decide)); exact t2
                  · (repeat (refine Eq.trans (upd_off ?_) ?_; focus decide)); exact t3
                  · (repeat (refine Eq.trans (upd_off ?_) ?_; focus decide)); exact t4
                  · (repeat (refine Eq.trans (upd_off ?_) ?_; focus decide)); exact t5
                  · (repeat (refine Eq.trans (upd_off ?_) ?_; focus decide)); exact t6
                  · show AllBare s₆.gens
                    rw [hg6]; exact hg55
          case tQ =>
            clear A3 A2 N9 hgB hoB hYc hlj hWS
            intro rest2 m₃ s₃' oc4 v4 hI1 hoc4 hoff4 F9 N9
            try k_fold
            refine hI1 _ ?_
            intro kp' hrest t1 t2 t3 t4 t5 t6 hg9 ho9
            subst hrest
            try dsimp only
            k_steps
            exact ⟨(it, o') :: (an, listOf (nv.push (.ref pa)) nB) :: (L' + 1 + 1 + 1, oc4) :: Z, m₃, .head _, fun _ K => K (nv.push (.ref pa)) nB Z oc4 v4 kp' (dropL_head (List.forall_mem_cons.mpr ⟨hne (an, listOf nv nc) (.head _), List.forall_mem_cons.mpr ⟨hne (L' + 1 + 1 + 1, c3x) (.tail _ (.head _)), hZit⟩⟩)) hoc4 (fun y hy => hXZ _ (hsub y hy)) hZn (x12 _ pa hXZ hWS1) t4 t5 t6 hg9 ho9, F9, cb_drop N9 (nan_back hY)⟩
      case nQ =>
        clear A3 A2 N9 p3 p5 hg hos e3
        intro rest m₂ s₂ hI1 F7 N7
        try k_fold
        refine hI1 _ ?_
        intro nv nc X c3x vt kp hrest hcd hsub hoffX hN p3 p4 p5 hg hos
        subst hrest
        refine nan_two hN ?_
        intro pa0 pa1 hnv hW0 hW1
        subst hnv
        have x13 := hsub _ h0
        have x14 := hsub _ s3
        have x15 := hsub _ s2
        have x16 := hsub _ s1
        have x17 := hsub _ hc0
        have x18 := hsub _ hc1
        have x19 := hsub _ ha0
        have x20 := hsub _ ha1
        have x21 := hsub _ m140
        have x22 := hsub _ m147
        clear hsub ha0 ha1 hl0 hl1 hv0 hv1 h0 hpk hc0 hc1 s1 s2 s3 m140 m147 hX0 hN hI1 q8
        try dsimp only
        k_steps
        rename_i h51 h52 h53 F53 N53 h54 tk54 t54 u54 v54 A3 A2 A1 A0
        clear F53 N53 A0
        have hS0 := fun t => sum_small (t := t) hr0
        have hS1 := fun t => sum_small (t := t) hr1
        refine comp_range (B := fun _ v m₃ => m₃ (Str.ofString "t") = some v) (n := topN rs0 q0 rs1 q1) (fun i ys nw g o => (∀ y ∈ (an, listOf #[.ref pa0, .ref pa1] nc) :: (L' + 1 + 1 + 1, c3x) :: X, y ∈ nw) ∧ TripsL nw ys.toArray ((List.range i).map (tabRow rs0 q0 rs1 q1)) ∧ g = s₂.gens ∧ o = s₂.os) (fun I => binds_name (by rfl) (by rfl)) A3 (size_ab (by (first | lia | omega))) (small_ab (n := topN rs0 q0 rs1 q1) (by (first | lia | omega)) (by (first | lia | omega)) (by (first | lia | omega))) (by (first | lia | omega)) (by rfl) A2 A1 (by decide) (by rfl) (fun i ys v D nw g o _ _ _ => trivial) ⟨fun y hy => hy, ⟨rfl, fun i hi => by simp at hi⟩, rfl, rfl⟩ (cturns_nil ?_) ?_
        · clear A3 A2 A1
          intro i ys v s₃ I oI C oC D m₃ nw E3 hi hys hP hI1 hB F8 N8 hC off ne3
          try k_fold
          refine and4 hI1 ?_
          intro hsub hT hg3 ho3
          clear hI1
          obtain ⟨tk7, rfl⟩ := hP
          rw [show ((1 : Int) + (i : Int)) = ((1 + i : Nat) : Int) by (first | lia | omega)] at hB
          have y14 := hsub _ (.tail _ (.tail _ x14))
          have y15 := hsub _ (.tail _ (.tail _ x15))
          have y16 := hsub _ (.tail _ (.tail _ x16))
          have y17 := hsub _ (.tail _ (.tail _ x17))
          have y18 := hsub _ (.tail _ (.tail _ x18))
          have y13 := hsub _ (.tail _ (.tail _ x13))
          have y19 := hsub _ (.tail _ (.tail _ x19))
          have y20 := hsub _ (.tail _ (.tail _ x20))
          have z1 : (#[.ref ac0, .ref ac1] : Array Value)[(0 : Int).toNat]? = some (.ref ac0) := rfl
          have z2 : (#[.ref ac0, .ref ac1] : Array Value)[(1 : Int).toNat]? = some (.ref ac1) := rfl
          have z3 : (#[.ref a0, .ref a1] : Array Value)[(0 : Int).toNat]? = some (.ref a0) := rfl
          have z4 : (#[.ref a0, .ref a1] : Array Value)[(1 : Int).toNat]? = some (.ref a1) := rfl
          have z5 : (#[.ref la, .int (q0 : Int) k0] : Array Value)[1]? = some (.int (q0 : Int) k0) := rfl
          have z6 : (#[.ref lb, .int (q1 : Int) k1] : Array Value)[1]? = some (.int (q1 : Int) k1) := rfl
          obtain ⟨tu, z7⟩ : ∃ tk, w0[(((1 + i : Nat) : Int) - 1).toNat]? = some (.int (rowsN (1 + i) rs0 : Int) tk) := by
            obtain ⟨tk, h⟩ := hw0.2 i (by simpa [upN] using hi)
            exact ⟨tk, by rw [show (((1 + i : Nat) : Int) - 1).toNat = i by (first | lia | omega), h]; simp [upN, Nat.add_comm]⟩
          obtain ⟨tv, z8⟩ : ∃ tk, w1[(((1 + i : Nat) : Int) - 1).toNat]? = some (.int (rowsN (1 + i) rs1 : Int) tk) := by
            obtain ⟨tk, h⟩ := hw1.2 i (by simpa [upN] using hi)
            exact ⟨tk, by rw [show (((1 + i : Nat) : Int) - 1).toNat = i by (first | lia | omega), h]; simp [upN, Nat.add_comm]⟩
          have z9 : rowsN (1 + i) rs0 ≤ 10 := hS0 (1 + i)
          have z10 : rowsN (1 + i) rs1 ≤ 10 := hS1 (1 + i)
          clear hS0 hS1 hw0 hw1 x13 x14 x15 x16 x17 x18 x19 x20 hoffX
          k_steps
          rename_i Tq h61 F61 N61 l61
          have w1e : (((1 + i : Nat) : Int) * (rowsN (1 + i) rs0 : Int) + (q0 : Int)) = (((1 + i) * rowsN (1 + i) rs0 + q0 : Nat) : Int) := by push_cast; rfl
          have w2e : (((1 + i : Nat) : Int) * (rowsN (1 + i) rs1 : Int) + (q1 : Int)) = (((1 + i) * rowsN (1 + i) rs1 + q1 : Nat) : Int) := by push_cast; rfl
          rw [w1e, w2e] at N61
          obtain ⟨ua, ub, N62⟩ : ∃ ua ub, News g' L' h61 ((Tq, tupOf #[.int ((1 + i : Nat) : Int) tk7, .int (((1 + i) * rowsN (1 + i) rs0 + q0 : Nat) : Int) ua, .int (((1 + i) * rowsN (1 + i) rs1 + q1 : Nat) : Int) ub]) :: (I, oI) :: (C, oC) :: (D, LCg.lst ys) :: nw) := ⟨_, _, N61⟩
          refine ⟨(Tq, tupOf #[.int ((1 + i : Nat) : Int) tk7, .int (((1 + i) * rowsN (1 + i) rs0 + q0 : Nat) : Int) ua, .int (((1 + i) * rowsN (1 + i) rs1 + q1 : Nat) : Int) ub]) :: nw, F61, cb_drop N62 (mem_mid' (pre := [_, _, _])), ⟨⟨Nat.ne_of_gt l61.1, Nat.ne_of_gt l61.2.1, Nat.ne_of_gt l61.2.2.1⟩, off⟩, fun y hy => .tail _ (hsub y hy), ?_, hg3, ho3⟩
          rw [List.range_succ, List.map_append, show (ys ++ [Value.ref Tq]).toArray = ys.toArray.push (.ref Tq) by simp]
          exact (hT.mono fun y hy => .tail _ hy).push (.head _)
        · intro D ys nw s₃ hI1
          try k_fold
          refine and4 hI1 ?_
          intro hsub hT hg3 ho3
          clear hI1
          unfold FinGA
          intro h8 tk8 F8 N8 hD
          have hT' : TripsL nw ys.toArray (tableL rs0 q0 rs1 q1) := hT
          have hyz : ys.toArray.size ≤ 5 := by rw [hT'.1]; simp [tableL]; (first | lia | omega)
          clear A3 A2 A1 hS0 hS1
          k_steps
          rw [show LCg.lst ys = listOf ys.toArray ys.length from rfl] at N8
          obtain ⟨nx0, hnx0⟩ : ∃ nx, nx = (D, listOf ys.toArray ys.length) :: nw := ⟨_, rfl⟩
          rw [← hnx0] at N8
          have hDm : (D, listOf ys.toArray ys.length) ∈ nx0 := by rw [hnx0]; exact .head _
          have hTX : TripsL nx0 ys.toArray (tableL rs0 q0 rs1 q1) := hT'.mono fun y hy => by rw [hnx0]; exact .tail _ hy
          have W0 : WsL nx0 pa0 (stOf rs0 q0) := hW0.mono fun y hy => by rw [hnx0]; exact .tail _ (hsub y (.tail _ (.tail _ hy)))
          have W1 : WsL nx0 pa1 (stOf rs1 q1) := hW1.mono fun y hy => by rw [hnx0]; exact .tail _ (hsub y (.tail _ (.tail _ hy)))
          have m140 : (140, tableObj p1) ∈ nx0 := by rw [hnx0]; exact .tail _ (hsub _ (.tail _ (.tail _ x21)))
          have m147 : (147, tableObj p2) ∈ nx0 := by rw [hnx0]; exact .tail _ (hsub _ (.tail _ (.tail _ x22)))
          clear x21 x22 hT' hT hsub hnx0 hW0 hW1 hD x13 x14 x15 x16 x17 x18 x19 x20
          refine comp_list (B := BindT) (l := D) (vs := ys.toArray) (c := ys.length) (fun i yz nw' g o => (∀ y ∈ nx0, y ∈ nw') ∧ yz.length ≤ i ∧ TripsL nw' yz.toArray (((tableL rs0 q0 rs1 q1).take i).filter foreP) ∧ g = s₂.gens ∧ o = s₂.os) (fun I => binds_three (by rfl) (by rfl) (by rfl) (by rfl) (by decide) (by decide) (by decide) (by rfl)) hDm (Nat.le_trans hyz (by decide)) (by rfl) F8 N8 (by decide) (by rfl) (fun i ys nw g o h => h.1 _ hDm) ?_ ⟨fun y hy => hy, Nat.le_refl _, ⟨rfl, fun i hi => by simp at hi⟩, hg3, ho3⟩ (cturns_one ?_) ?_
          · intro i yz v D1 nw1 g o hi hv hI1
            exact trip_tup hTX hi hv (fun y hy => .tail _ (hI1.1 y hy))
          · intro i yz v s₄ I oI C oC D1 m₃ nw1 E4 hi hyz2 hP hI1 hI2 F9 N9 hC off ne3
            try k_fold
            refine and5 hI1 ?_
            intro hsub2 hyl hT2 hg4 ho4
            refine trip_bind hTX hi hP hI2 (fun y hy => .tail _ (hsub2 y hy)) (cb_drop N9 (fun p hp => .tail _ (.tail _ hp))) ?_
            intro u1 u2 u3 hi' g1 g2 g3
            clear N8 F8 hI1 hI2
            k_steps
            · rename_i hle T3 h71 F71 N71 l71
              exact ⟨(T3, tupOf #[.int ((tableL rs0 q0 rs1 q1)[i].1 : Int) u1, .int ((tableL rs0 q0 rs1 q1)[i].2.1 : Int) u2, .int ((tableL rs0 q0 rs1 q1)[i].2.2 : Int) u3]) :: nw1, F71, cb_drop N71 (mem_mid' (pre := [_, _, _])), ⟨⟨Nat.ne_of_gt l71.1, Nat.ne_of_gt l71.2.1, Nat.ne_of_gt l71.2.2.1⟩, off⟩, fun y hy => .tail _ (hsub2 y hy), Nat.le_trans (Nat.le_of_eq List.length_append) (Nat.succ_le_succ hyl), trips_yes hT2 hi' (decide_eq_true (by (first | lia | omega))) (.head _) (fun y hy => .tail _ hy), hg4, ho4⟩
            · rename_i hle
              exact ⟨nw1, by assumption, by assumption, off, hsub2, Nat.le_succ_of_le hyl, by rw [trips_no hi' (decide_eq_false (by (first | lia | omega)))]; exact hT2, hg4, ho4⟩
          intro D2 yz nw1 s₄ hI1
          try k_fold
          refine and5 hI1 ?_
          intro hsub2 hyl1 hT2 hg4 ho4
          rw [hTX.1, List.take_length] at hT2
          clear hI1
          unfold FinGA
          intro h9 tk9 F9 N9 hD2
          rw [show LCg.lst yz = listOf yz.toArray yz.length from rfl] at N9
          obtain ⟨nx1, hnx⟩ : ∃ nx, nx = (D2, listOf yz.toArray yz.length) :: nw1 := ⟨_, rfl⟩
          rw [← hnx] at N9
          have m1 : (D2, listOf yz.toArray yz.length) ∈ nx1 := by rw [hnx]; exact .head _
          have hup : ∀ y ∈ nw1, y ∈ nx1 := fun y hy => by rw [hnx]; exact .tail _ hy
          have t1 : TripsL nx1 yz.toArray (foreL rs0 q0 rs1 q1) := hT2.mono hup
          have hsX : ∀ y ∈ nx0, y ∈ nx1 := fun y hy => hup y (hsub2 y hy)
          replace hDm := hsX _ hDm
          replace hTX := hTX.mono hsX
          replace W0 := W0.mono hsX
          replace W1 := W1.mono hsX
          replace m140 := hsX _ m140
          replace m147 := hsX _ m147
          clear hsX hup hT2 hsub2 hnx hg3 ho3 F8 N8
          have hg3 := hg4
          have ho3 := ho4
          have F8 := F9
          have N8 := N9
          clear F9 N9 hg4 ho4
          k_steps
          refine comp_list (B := BindT) (l := D) (vs := ys.toArray) (c := ys.length) (fun i yw nw' g o => (∀ y ∈ nx1, y ∈ nw') ∧ yw.length ≤ i ∧ TripsL nw' yw.toArray ((((tableL rs0 q0 rs1 q1).take i).filter backP).map fun p => (p.1, p.2.2, p.2.1)) ∧ g = s₂.gens ∧ o = s₂.os) (fun I => binds_three (by rfl) (by rfl) (by rfl) (by rfl) (by decide) (by decide) (by decide) (by rfl)) hDm (Nat.le_trans hyz (by decide)) (by rfl) F8 N8 (by decide) (by rfl) (fun i ys nw g o h => h.1 _ hDm) ?_ ⟨fun y hy => hy, Nat.le_refl _, ⟨rfl, fun i hi => by simp at hi⟩, hg3, ho3⟩ (cturns_one ?_) ?_
          · intro i yw v D1 nw1 g o hi hv hI1
            exact trip_tup hTX hi hv (fun y hy => .tail _ (hI1.1 y hy))
          · intro i yw v s₄ I oI C oC D1 m₃ nw1 E4 hi hyz2 hP hI1 hI2 F9 N9 hC off ne3
            try k_fold
            refine and5 hI1 ?_
            intro hsub2 hyl hT2 hg4 ho4
            refine trip_bind hTX hi hP hI2 (fun y hy => .tail _ (hsub2 y hy)) (cb_drop N9 (fun p hp => .tail _ (.tail _ hp))) ?_
            intro u1 u2 u3 hi' g1 g2 g3
            clear N8 F8 hI1 hI2
            k_steps
            · rename_i hle T3 h71 F71 N71 l71
              exact ⟨(T3, tupOf #[.int ((tableL rs0 q0 rs1 q1)[i].1 : Int) u1, .int ((tableL rs0 q0 rs1 q1)[i].2.2 : Int) u3, .int ((tableL rs0 q0 rs1 q1)[i].2.1 : Int) u2]) :: nw1, F71, cb_drop N71 (mem_mid' (pre := [_, _, _])), ⟨⟨Nat.ne_of_gt l71.1, Nat.ne_of_gt l71.2.1, Nat.ne_of_gt l71.2.2.1⟩, off⟩, fun y hy => .tail _ (hsub2 y hy), Nat.le_trans (Nat.le_of_eq List.length_append) (Nat.succ_le_succ hyl), trips_yesB hT2 hi' (decide_eq_true (by (first | lia | omega))) (.head _) (fun y hy => .tail _ hy), hg4, ho4⟩
            · rename_i hle
              exact ⟨nw1, by assumption, by assumption, off, hsub2, Nat.le_succ_of_le hyl, by rw [trips_no hi' (decide_eq_false (by (first | lia | omega)))]; exact hT2, hg4, ho4⟩
          intro D3 yw nw2 s₄ hI1
          try k_fold
          refine and5 hI1 ?_
          intro hsub2 hyl2 hT2 hg4 ho4
          rw [hTX.1, List.take_length] at hT2
          clear hI1
          unfold FinGA
          intro h9 tk9 F9 N9 hD2
          rw [show LCg.lst yw = listOf yw.toArray yw.length from rfl] at N9
          obtain ⟨nx2, hnx⟩ : ∃ nx, nx = (D3, listOf yw.toArray yw.length) :: nw2 := ⟨_, rfl⟩
          rw [← hnx] at N9
          have m2 : (D3, listOf yw.toArray yw.length) ∈ nx2 := by rw [hnx]; exact .head _
          have hup : ∀ y ∈ nw2, y ∈ nx2 := fun y hy => by rw [hnx]; exact .tail _ hy
          have t2 : TripsL nx2 yw.toArray (backL rs0 q0 rs1 q1) := hT2.mono hup
          have hsX : ∀ y ∈ nx1, y ∈ nx2 := fun y hy => hup y (hsub2 y hy)
          replace hDm := hsX _ hDm
          replace hTX := hTX.mono hsX
          replace W0 := W0.mono hsX
          replace W1 := W1.mono hsX
          replace m140 := hsX _ m140
          replace m147 := hsX _ m147
          replace m1 := hsX _ m1
          replace t1 := t1.mono hsX
          clear hsX hup hT2 hsub2 hnx hg3 ho3 F8 N8
          have hg3 := hg4
          have ho3 := ho4
          have F8 := F9
          have N8 := N9
          clear F9 N9 hg4 ho4
          k_steps
          refine comp_list (B := BindT) (l := D) (vs := ys.toArray) (c := ys.length) (fun i yu nw' g o => (∀ y ∈ nx2, y ∈ nw') ∧ yu.length ≤ i ∧ TripsL nw' yu.toArray (((tableL rs0 q0 rs1 q1).take i).filter apartP) ∧ g = s₂.gens ∧ o = s₂.os) (fun I => binds_three (by rfl) (by rfl) (by rfl) (by rfl) (by decide) (by decide) (by decide) (by rfl)) hDm (Nat.le_trans hyz (by decide)) (by rfl) F8 N8 (by decide) (by rfl) (fun i ys nw g o h => h.1 _ hDm) ?_ ⟨fun y hy => hy, Nat.le_refl _, ⟨rfl, fun i hi => by simp at hi⟩, hg3, ho3⟩ (cturns_one ?_) ?_
          · intro i yu v D1 nw1 g o hi hv hI1
            exact trip_tup hTX hi hv (fun y hy => .tail _ (hI1.1 y hy))
          · intro i yu v s₄ I oI C oC D1 m₃ nw1 E4 hi hyz2 hP hI1 hI2 F9 N9 hC off ne3
            try k_fold
            refine and5 hI1 ?_
            intro hsub2 hyl hT2 hg4 ho4
            refine trip_bind hTX hi hP hI2 (fun y hy => .tail _ (hsub2 y hy)) (cb_drop N9 (fun p hp => .tail _ (.tail _ hp))) ?_
            intro u1 u2 u3 hi' g1 g2 g3
            clear N8 F8 hI1 hI2
            k_steps
            · rename_i hle T3 h71 F71 N71 l71
              exact ⟨(T3, tupOf #[.int ((tableL rs0 q0 rs1 q1)[i].1 : Int) u1, .int ((tableL rs0 q0 rs1 q1)[i].2.1 : Int) u2, .int ((tableL rs0 q0 rs1 q1)[i].2.2 : Int) u3]) :: nw1, F71, cb_drop N71 (mem_mid' (pre := [_, _, _])), ⟨⟨Nat.ne_of_gt l71.1, Nat.ne_of_gt l71.2.1, Nat.ne_of_gt l71.2.2.1⟩, off⟩, fun y hy => .tail _ (hsub2 y hy), Nat.le_trans (Nat.le_of_eq List.length_append) (Nat.succ_le_succ hyl), trips_yes hT2 hi' (decide_eq_true (by (try simp only [ne_eq] at *); (first | lia | omega))) (.head _) (fun y hy => .tail _ hy), hg4, ho4⟩
            · rename_i hle
              exact ⟨nw1, by assumption, by assumption, off, hsub2, Nat.le_succ_of_le hyl, by rw [trips_no hi' (decide_eq_false (by (try simp only [ne_eq] at *); (first | lia | omega)))]; exact hT2, hg4, ho4⟩
          intro D4 yu nw3 s₄ hI1
          try k_fold
          refine and5 hI1 ?_
          intro hsub2 hyl3 hT2 hg4 ho4
          rw [hTX.1, List.take_length] at hT2
          clear hI1
          unfold FinGA
          intro h9 tk9 F9 N9 hD2
          rw [show LCg.lst yu = listOf yu.toArray yu.length from rfl] at N9
          obtain ⟨nx3, hnx⟩ : ∃ nx, nx = (D4, listOf yu.toArray yu.length) :: nw3 := ⟨_, rfl⟩
          rw [← hnx] at N9
          have m3 : (D4, listOf yu.toArray yu.length) ∈ nx3 := by rw [hnx]; exact .head _
          have hup : ∀ y ∈ nw3, y ∈ nx3 := fun y hy => by rw [hnx]; exact .tail _ hy
          have t3 : TripsL nx3 yu.toArray (apartL rs0 q0 rs1 q1) := hT2.mono hup
          have hsX : ∀ y ∈ nx2, y ∈ nx3 := fun y hy => hup y (hsub2 y hy)
          replace hDm := hsX _ hDm
          replace hTX := hTX.mono hsX
          replace W0 := W0.mono hsX
          replace W1 := W1.mono hsX
          replace m140 := hsX _ m140
          replace m147 := hsX _ m147
          replace m1 := hsX _ m1
          replace t1 := t1.mono hsX
          replace m2 := hsX _ m2
          replace t2 := t2.mono hsX
          clear hsX hup hT2 hsub2 hnx hg3 ho3 F8 N8
          have hg3 := hg4
          have ho3 := ho4
          have F8 := F9
          have N8 := N9
          clear F9 N9 hg4 ho4
          refine wit_pack hr0 hr1 hq0 hq1 ?_
          intro ba bf bk e1 e2 e3 hba hbf hbk hba' hbf' hbk'
          (refine WsL.elim W0 ?_; intro fd0 T10 T20 ws0 x0 b1 b2 b3 b4 b5 r1 r2 r3 r4 r5 ky0 kn0 knt0 kb0 i1 i2 i3 i4  i5)
          (refine WsL.elim W1 ?_; intro fd1 T11 T21 ws1 x1 c1' c2' c3' c4' c5' u1' u2' u3' u4' u5' ky1 kn1 knt1 kb1 j1 j2 j3 j4  j5)
          clear hDm hTX hyz hyl3 hyl2 hyl1 hD2
          k_steps
          rename_i al1 vv1 cc1 sA nA hsA haA htA gA oA al2 vv2 cc2 sB nB hsB haB htB gB oB al3 vv3 cc3 sC nC hsC haC htC gC oC sD gD oD lD hD l1D sE gE oE lE hE l1E sF gF oF lF hF FF NF l1F kFF kNF TcF kXF
          have eg : sF.gens = s₂.gens := gF.trans (gE.trans (gD.trans (gC.trans (gB.trans (gA.trans hg3)))))
          have eo : sF.os = s₂.os := oF.trans (oE.trans (oD.trans (oC.trans (oB.trans (oA.trans ho3)))))
          exact hret _ _ _ _ kFF kNF (.tail _ (.tail _ (.tail _ m140))) (.tail _ (.tail _ (.tail _ m147))) (by show AllBare sF.gens; rw [eg]; exact hg) (eo.trans hos)
end
section
open PySem PySem.Spec PySem.Calls PySem.W PyProof.Rows
set_option maxRecDepth 100000
set_option maxHeartbeats 400000
/-- an enumerate iterator over a list, between two turns -/
noncomputable def enumO (it : Addr) (i : Nat) (old : Value) : Obj := { cls := .type "enumerate", dict := none, data := .fields #[.none, .bool false, .ref it, rawInt i, .none, old], slots := #[] }
noncomputable def EnumAt (h : Heap) (e it l : Addr) (i : Nat) : Prop := (∃ old, h.get? e = some (enumO it i old)) ∧ h.IsListIter it l i
/-- what one turn of a comprehension over enumerate leaves behind -/
noncomputable def EnumEnd (h₀ : Heap) (L : Addr) (m : Str → Option Value) (own : List (Addr × Obj)) (P : Prop) (g : Array GenState) (o : OsState) (s : Shared) : Prop := P ∧ Fr h₀ L s.heap m ∧ News h₀ L s.heap own ∧ s.gens = g ∧ s.os = o
section
variable {w : World} {A : Around} {E : Value → Shared → Prop} {s : Shared} {h₀ : Heap} {L : Addr} {m : Str → Option Value} {env : Env} {news : List (Addr × Obj)}
theorem enum_K {l : Addr} {vs : Array Value} {c : Nat} {Q : Value → Shared → Prop} (F : Fr h₀ L s.heap m) (N : News h₀ L s.heap news) (hl : (l, listOf vs c) ∈ news)
    (h : ∀ (e it : Nat) h', EnumAt h' e it l 0 → Fr h₀ L h' m → News h₀ L h' news → (∀ p ∈ news, @LT.lt Nat _ p.1 it) → @LT.lt Nat _ it e → @LT.lt Nat _ L it → (∀ a : Nat, it ≤ a → h₀.get? a = none) → Q (.ref e) { s with heap := h' }) :
    wpAny (model PG w) A (call (.type "enumerate") [.ref l]) Q E s := by
  refine call_enumerate_list (items := vs) ⟨_, (N _ hl).1, rfl, _, rfl⟩ fun h' he hit hsz hk => ?_
  exact h _ _ h' ⟨⟨_, he⟩, hit⟩ (F.keeps hk) (N.grown hk) (fun p hp => Heap.lt_size (N p hp).1) (Nat.lt_succ_self _) F.ns.lt fun a ha => Heap.get?_none_of_le (Nat.le_trans (Nat.le_of_lt (Nat.lt_of_le_of_lt F.above F.ns.lt)) ha)
theorem comp_enum {elt iter : Expr} {x₁ x₂ : Str} {p₁ p₂ tp : Pos} {kk : Nat} {scope : Scope} {cl : List (Str × Addr)} {pos : Pos} {Fin : FinT} {l e it : Nat} {vs : Array Value} {c : Nat} (Inv : Nat → List Value → Prop)
    (hl : (l, listOf vs c) ∈ news) (hz : vs.size ≤ 1000) (hh : A.handled = none) (F : Fr h₀ L s.heap m) (N : News h₀ L s.heap news) (hE : EnumAt s.heap e it l 0)
    (hlt : ∀ p ∈ news, @LT.lt Nat _ p.1 it) (hie : it < e) (hLi : @LT.lt Nat _ L it) (hfr : ∀ a : Nat, it ≤ a → h₀.get? a = none)
    (hcell : ∀ y ∈ scope.names, y.2 ≠ .cell) (hkind : scope.kind = .function) (hx₁ : scope.names.lookup x₁ = some .local) (hx₂ : scope.names.lookup x₂ = some .local) (hne : x₁ ≠ x₂)
    (hI : Inv 0 [])
    (hturn : ∀ i ys v tk s₁ oe oit C oC D m₂ E', i < vs.size → vs[i]? = some v → Inv i ys → m₂ x₁ = some (.int (i : Int) tk) → m₂ x₂ = some v → Fr h₀ L s₁.heap m → News h₀ L s₁.heap ((e, oe) :: (it, oit) :: (C, oC) :: (D, LCg.lst ys) :: news) → LCg.NsObj oC m₂ → s₁.gens = s.gens → s₁.os = s.os →
      wpAny (model PG w) A (eval elt (compEnvC scope cl C env)) (fun y s₄ => EnumEnd h₀ L m ((e, oe) :: (it, oit) :: (C, oC) :: (D, LCg.lst ys) :: news) (Inv (i + 1) (ys ++ [y])) s.gens s.os s₄) E' s₁)
    (hfin : ∀ D ys s', Inv vs.size ys → s'.gens = s.gens → s'.os = s.os → Fin D ys news s') :
    CompOf w A E h₀ L m env elt (.Tuple [.Name x₁ p₁, .Name x₂ p₂] kk tp) iter [] scope cl pos Fin (.ref e) s := by
  intro RR hRR
  obtain ⟨⟨old0, he0⟩, hit0⟩ := hE
  have hle : @LT.lt Nat _ l it := hlt _ hl
  refine wpAny_pyIter_enum he0 ?_
  refine wpAny_newObj_type (wpAny_newFunctionEnv hcell (by intro y hy; simp at hy) (fun h₁ hns₁ hsb₁ => ?_) hkind)
  dsimp only at hns₁ hsb₁ ⊢
  generalize hH2 : s.heap.push { cls := .type "list", dict := none, data := .seq ([] : List Value).toArray } = H2 at hns₁ hsb₁ ⊢
  have hC : H2.objs.size = s.heap.objs.size + 1 := by rw [← hH2, Heap.size_push]
  obtain ⟨D, hD⟩ : ∃ D : Nat, s.heap.objs.size = D := ⟨_, rfl⟩
  obtain ⟨C, hC'⟩ : ∃ C : Nat, H2.objs.size = C := ⟨_, rfl⟩
  have hCD : C = D + 1 := by rw [← hC', hC, hD]
  have heD : e < D := by rw [← hD]; exact Heap.lt_size he0
  have eD : e < D := heD
  have itD : it < D := Nat.lt_trans hie heD
  have DC : D < C := by rw [hCD]; exact Nat.lt_succ_self D
  have eC : e < C := Nat.lt_trans heD DC
  have itC : it < C := Nat.lt_trans itD DC
  have Le : @LT.lt Nat _ L e := Nat.lt_trans hLi hie
  have LD : @LT.lt Nat _ L D := Nat.lt_trans hLi itD
  have LC : @LT.lt Nat _ L C := Nat.lt_trans LD DC
  have below : ∀ b : Nat, b ≤ D → b ≠ C := fun b hb => Nat.ne_of_lt (Nat.lt_of_le_of_lt hb (by rw [hCD]; exact Nat.lt_succ_self D))
  have old : ∀ b o, s.heap.get? b = some o → h₁.get? b = some o := fun b o q => hsb₁.extBut b o (by
    have hb : @LT.lt Nat _ b D := by rw [← hD]; exact Heap.lt_size q
    intro q'
    exact below b (Nat.le_of_lt hb) (by rw [← hC']; exact q')) (Heap.get?_push_of_some _ (hH2 ▸ Heap.get?_push_of_some _ q))
  have hacc : h₁.get? D = some (LCg.lst []) := hsb₁.extBut _ _ (fun q => below D (Nat.le_refl _) (by rw [← hC']; exact q)) (Heap.get?_push_of_some _ (hH2 ▸ hD ▸ Heap.get?_push_size _ rfl))
  obtain ⟨oC0, heC, hoC⟩ := LCg.ns_obj hns₁
  rw [hC'] at heC
  have hlistit : ∀ (h : Heap) (o : Obj), h.get? it = some o → ∀ (h' : Heap), h'.get? it = some o → ∀ i, h.IsListIter it l i → h'.IsListIter it l i := by
    intro h o q h' q' i ⟨o', r, r'⟩
    rw [q] at r
    cases r
    exact ⟨o, q', r'⟩
  -- the state between two turns
  let J : Nat → Shared → Prop := fun k s' => ∃ i ys oe oit oC m₂, i ≤ vs.size ∧ k = vs.size - i ∧ ys.length = i ∧ Inv i ys ∧ Fr h₀ L s'.heap m ∧ News h₀ L s'.heap ((e, oe) :: (it, oit) :: (C, oC) :: (D, LCg.lst ys) :: news) ∧ LCg.NsObj oC m₂ ∧ EnumAt s'.heap e it l i ∧ s'.gens = s.gens ∧ s'.os = s.os
  have loop : ∀ s₃ : Shared, s₃ = { s with heap := h₁, toks := s.toks + ([] : List (Str × Value)).length } →
      codeAny (model PG w) A (.compLoop (.ListComp elt [⟨.Tuple [.Name x₁ p₁, .Name x₂ p₂] kk tp, iter, [], 0⟩] scope pos) 0 (.ref e) (.ref D) (compEnvC scope cl C env)) (RR (.ref D) C) s₃ := by
    rintro s₃ rfl
    refine comp_code turn_one J ?_ vs.size ?_
    · rintro k s' ⟨i, ys, oe, oit, oC, m₂, hi, rfl, hys, hI', F', N', hC2, ⟨⟨old1, he1⟩, hit1⟩, hg1, ho1⟩
      have hls : s'.heap.IsList l vs := ⟨_, (N' _ (.tail _ (.tail _ (.tail _ (.tail _ hl))))).1, rfl, _, rfl⟩
      have zC := N' (C, oC) (.tail _ (.tail _ (.head _)))
      have zD := N' (D, LCg.lst ys) (.tail _ (.tail _ (.tail _ (.head _))))
      have ze := N' (e, oe) (.head _)
      have zi := N' (it, oit) (.tail _ (.head _))
      have ne : @Ne Nat e it := Nat.ne_of_gt hie
      by_cases hlt2 : i < vs.size
      · have hv : vs[i]? = some vs[i] := Array.getElem?_eq_getElem hlt2
        refine wpAny_pyNext_enum_item he1 hit1 hls hv ne fun h₂ ho₂ hit₂ hT₂ hsz₂ hk₂ => ?_
        refine wpAny_letOwnedTupleGo_enum ho₂ fun h₃ he₃ hs₃ => ?_
        have hTe : @Ne Nat s'.heap.objs.size e := Nat.ne_of_gt (Heap.lt_size he1)
        have hT₃ : h₃.IsTuple s'.heap.objs.size #[.int (i : Int) s'.toks, vs[i]] := ⟨_, hs₃.extBut _ _ hTe hT₂, rfl, _, rfl⟩
        refine wpAny_assign_Tuple hh hT₃ rfl rfl fun h₄ he₄ => ?_
        have up : ∀ b o, @Ne Nat b e → @Ne Nat b it → s'.heap.get? b = some o → h₄.get? b = some o := fun b o n1 n2 q => he₄ _ _ (fun q' => by
          have r1 := Heap.lt_size q
          have r2 : h₃.objs.size = s'.heap.objs.size + 1 := hs₃.1.trans hsz₂
          have r3 : @Eq Nat b h₃.objs.size := q'
          rw [r2] at r3
          exact absurd r1 (by rw [r3]; exact Nat.not_lt.mpr (Nat.le_succ _))) (hs₃.extBut _ _ n1 (hk₂ _ _ n1 n2 q))
        have lift4 : ∀ b o, h₃.get? b = some o → h₄.get? b = some o := fun b o q => he₄ b o (Nat.ne_of_lt (Heap.lt_size q)) q
        have he₅ : h₄.get? e = some (enumO it (i + 1) vs[i]) := lift4 _ _ he₃
        obtain ⟨oi₅, ho₅, hi₅⟩ : ∃ o, h₄.get? it = some o ∧ ∀ (h' : Heap), h'.get? it = some o → h'.IsListIter it l (i + 1) := by
          obtain ⟨o, q, r⟩ := hit₂
          exact ⟨o, lift4 _ _ (hs₃.extBut _ _ (Ne.symm ne) q), fun h' q' => ⟨o, q', r⟩⟩
        have hns : h₄.Ns (compEnvC scope cl C env).locals m₂ := hC2.ns (up C oC (Nat.ne_of_gt eC) (Nat.ne_of_gt itC) zC.1)
        have hp : ((compEnvC scope cl C env).scope.kind == .class || ((compEnvC scope cl C env).scope.kind == .module && (compEnvC scope cl C env).locals != (compEnvC scope cl C env).globals)) = false := by simp [compEnvC, relabel, hkind]
        refine assignInOrder_cons (wpAny_assign_Name (wpAny_storeName_local (lookup_relabel_local hx₁) hns (fun h₅ hn₅ hs₅ => ?_) hp))
        refine assignInOrder_cons (wpAny_assign_Name (wpAny_storeName_local (lookup_relabel_local hx₂) hn₅ (fun h₆ hn₆ hs₆ => ?_) hp))
        refine assignInOrder_nil ?_
        refine wpAny_tests_nil ?_
        obtain ⟨oC6, eC6, hC6⟩ := LCg.ns_obj hn₆
        have keep : ∀ b o, @Ne Nat b C → h₄.get? b = some o → h₆.get? b = some o := fun b o hb q => hs₆.extBut b o hb (hs₅.extBut b o hb q)
        have keep6 : ∀ b o, @Ne Nat b e → @Ne Nat b it → @Ne Nat b C → s'.heap.get? b = some o → h₆.get? b = some o := fun b o n1 n2 n3 q => keep b o n3 (up b o n1 n2 q)
        have F6 : Fr h₀ L h₆ m := ⟨F'.ns.at' fun o q => keep6 L o (Nat.ne_of_lt Le) (Nat.ne_of_lt hLi) (Nat.ne_of_lt LC) q, fun b o q => keep6 b o (fun q' => by rw [q', hfr e (Nat.le_of_lt hie)] at q; cases q) (fun q' => by rw [q', hfr it (Nat.le_refl _)] at q; cases q) (fun q' => by rw [q', hfr C (Nat.le_of_lt itC)] at q; cases q) (F'.keep b o q), F'.above⟩
        have hiC : @Ne Nat it C := Nat.ne_of_lt itC
        have heC' : @Ne Nat e C := Nat.ne_of_lt eC
        have N6 : News h₀ L h₆ ((e, enumO it (i + 1) vs[i]) :: (it, oi₅) :: (C, oC6) :: (D, LCg.lst ys) :: news) := fun p hp => by
          rcases List.mem_cons.mp hp with rfl | hp
          · exact ⟨keep _ _ heC' he₅, ze.2⟩
          rcases List.mem_cons.mp hp with rfl | hp
          · exact ⟨keep _ _ hiC ho₅, zi.2⟩
          rcases List.mem_cons.mp hp with rfl | hp
          · exact ⟨eC6, zC.2⟩
          rcases List.mem_cons.mp hp with rfl | hp
          · exact ⟨keep6 D _ (Nat.ne_of_gt eD) (Nat.ne_of_gt itD) (Nat.ne_of_lt DC) zD.1, zD.2⟩
          · have hp1 := hlt p hp
            have zp := N' p (.tail _ (.tail _ (.tail _ (.tail _ hp))))
            exact ⟨keep6 p.1 _ (Nat.ne_of_lt (Nat.lt_trans hp1 hie)) (Nat.ne_of_lt hp1) (Nat.ne_of_lt (Nat.lt_trans hp1 itC)) zp.1, zp.2⟩
        refine tail_app (wpAny_mono (hturn i ys vs[i] s'.toks _ _ _ C oC6 D _ _ hlt2 hv hI' (by simp [hne]) (by simp) F6 N6 hC6 hg1 ho1) (fun y s₄ ⟨hI4, F7, N7, hg4, ho4⟩ => ?_) fun _ _ x => x)
        have yD := N7 (D, LCg.lst ys) (.tail _ (.tail _ (.tail _ (.head _))))
        refine append_at (hsz := by show ys.toArray.size ≤ sizeLine; rw [List.size_toArray, hys, sizeLine_eq]; (first | lia | omega)) yD.1 fun h₈ hs₈ hD₈ => ?_
        have keep8 : ∀ b o, @Ne Nat b D → s₄.heap.get? b = some o → h₈.get? b = some o := fun b o n q => hs₈.extBut b o n q
        refine ⟨vs.size - (i + 1), Nat.sub_lt_sub_left hlt2 (Nat.lt_succ_self i), i + 1, ys ++ [y], enumO it (i + 1) vs[i], oi₅, oC6, _, hlt2, rfl, by simp [hys], hI4, F7.change hs₈ yD.2.1 yD.2.2, fun p hp => ?_, hC6, ⟨⟨_, keep8 _ _ (Nat.ne_of_lt eD) (N7 _ (.head _)).1⟩, hi₅ _ (keep8 _ _ (Nat.ne_of_lt itD) (N7 _ (.tail _ (.head _))).1)⟩, hg4, ho4⟩
        rcases List.mem_cons.mp hp with rfl | hp
        · exact ⟨keep8 _ _ (Nat.ne_of_lt eD) (N7 _ (.head _)).1, ze.2⟩
        rcases List.mem_cons.mp hp with rfl | hp
        · exact ⟨keep8 _ _ (Nat.ne_of_lt itD) (N7 _ (.tail _ (.head _))).1, zi.2⟩
        rcases List.mem_cons.mp hp with rfl | hp
        · exact ⟨keep8 _ _ (Nat.ne_of_gt DC) (N7 _ (.tail _ (.tail _ (.head _)))).1, zC.2⟩
        rcases List.mem_cons.mp hp with rfl | hp
        · exact ⟨hD₈.trans (congrArg some (LCg.lst_snoc ys y)), zD.2⟩
        · have hp1 := hlt p hp
          have zp := N7 p (.tail _ (.tail _ (.tail _ (.tail _ hp))))
          exact ⟨keep8 p.1 _ (Nat.ne_of_lt (Nat.lt_trans hp1 itD)) zp.1, zp.2⟩
      · have hii : i = vs.size := Nat.le_antisymm hi (Nat.not_lt.mp hlt2)
        refine wpAny_pyNext_enum_end hh he1 hit1 hls (Array.getElem?_eq_none (Nat.not_lt.mp hlt2)) fun h₂ hx₂ => ?_
        have keep2 : ∀ b o, @Ne Nat b it → s'.heap.get? b = some o → h₂.get? b = some o := fun b o n q => hx₂ b o n q
        refine hRR D C _ oC m₂ ys news ⟨F'.ns.at' fun o q => keep2 L o (Nat.ne_of_lt hLi) q, fun b o q => keep2 b o (fun q' => by rw [q', hfr it (Nat.le_refl _)] at q; cases q) (F'.keep b o q), F'.above⟩ (fun p hp => ?_) hC2 (fun p hp => ⟨?_, ?_⟩) (Nat.ne_of_gt DC) (hfin D ys _ (hii ▸ hI') hg1 ho1)
        · rcases List.mem_cons.mp hp with rfl | hp
          · exact ⟨keep2 _ _ (Nat.ne_of_gt itC) zC.1, zC.2⟩
          rcases List.mem_cons.mp hp with rfl | hp
          · exact ⟨keep2 _ _ (Nat.ne_of_gt itD) zD.1, zD.2⟩
          · have hp1 := hlt p hp
            have zp := N' p (.tail _ (.tail _ (.tail _ (.tail _ hp))))
            exact ⟨keep2 p.1 _ (Nat.ne_of_lt hp1) zp.1, zp.2⟩
        · exact Nat.ne_of_lt (Nat.lt_trans (hlt p hp) itC)
        · exact Nat.ne_of_lt (Nat.lt_trans (hlt p hp) itD)
    · obtain ⟨oit0, hoit0⟩ : ∃ o, s.heap.get? it = some o := by obtain ⟨o, q, _⟩ := hit0; exact ⟨o, q⟩
      refine ⟨0, [], enumO it 0 old0, oit0, oC0, _, Nat.zero_le _, rfl, rfl, hI, F.keeps old, fun p hp => ?_, hoC, ⟨⟨_, old _ _ he0⟩, hlistit _ _ hoit0 _ (old _ _ hoit0) 0 hit0⟩, rfl, rfl⟩
      rcases List.mem_cons.mp hp with rfl | hp
      · exact ⟨old _ _ he0, Nat.ne_of_gt Le, hfr e (Nat.le_of_lt hie)⟩
      rcases List.mem_cons.mp hp with rfl | hp
      · exact ⟨old _ _ hoit0, Nat.ne_of_gt hLi, hfr it (Nat.le_refl _)⟩
      rcases List.mem_cons.mp hp with rfl | hp
      · exact ⟨heC, Nat.ne_of_gt LC, hfr C (Nat.le_of_lt itC)⟩
      rcases List.mem_cons.mp hp with rfl | hp
      · exact ⟨hacc, Nat.ne_of_gt LD, hfr D (Nat.le_of_lt itD)⟩
      · exact ⟨old _ _ (N p hp).1, (N p hp).2⟩
  have goal := loop _ rfl
  rw [hC', hD]
  refine codeAny_compStart_list goal (wpAny_pyIter_enum (old := old0) (i := 0) (old _ _ he0) goal)
end
end
section
open PySem PySem.Spec PySem.Calls PySem.W PyProof.Rows
set_option maxRecDepth 100000
set_option maxHeartbeats 400000
section
variable {w : World} {A : Around} {E : Value → Shared → Prop} {s : Shared} {h₀ : Heap} {L : Addr} {m : Str → Option Value} {news : List (Addr × Obj)}
theorem slice3_K {value slice : PySem.Expr} {l : Addr} {vs : List Value} {ns : List Int} {vl vu vk : Value} {lo hi st : Option Int} {ops : List Value} {Q : Value → Shared → Prop}
    (F : Fr h₀ L s.heap m) (N : News h₀ L s.heap news) (hl : s.heap.IsList l vs.toArray) (hi' : IntsAre vs ns) (hn : ns.length ≤ 1000) (pl : IsPart vl lo) (pu : IsPart vu hi) (pk : IsPart vk st) (h0 : st ≠ some 0)
    (h : ∀ D h' zs ms, Fr h₀ L h' m → News h₀ L h' ((D, listOf zs 0) :: news) → IntsAre zs.toList ms → Q (.ref D) { s with heap := h' })
    (hs : subscripted slice false (.ref l) (.ref s.heap.objs.size) = operate ops (getItem (.ref l) (.ref s.heap.objs.size)))
    (ht : ∀ r, letTemporaryGo value (.ref l) r = pure ()) :
    wpAny (model PG w) A (subscriptTail value slice (.ref l) (.ref s.heap.objs.size)) Q E { s with heap := s.heap.push { cls := .type "slice", data := .fields #[vl, vu, vk] } } :=
  slice_list3 F N hl pl pu pk h0 (fun h' F' N' => h _ h' _ _ F' N' (hi'.pick lo hi st)) hs ht (by rw [List.size_toArray, hi'.length, sizeLine_eq]; (first | lia | omega))
theorem sumI_K {l : Addr} {its : Array Value} {n : Nat} {ms : List Int} {Q : Value → Shared → Prop} (F : Fr h₀ L s.heap m) (N : News h₀ L s.heap news) (hl : (l, listOf its n) ∈ news) (hi : IntsAre its.toList ms) (hh : A.handled = none)
    (h : ∀ h' tk t', Fr h₀ L h' m → News h₀ L h' news → Q (.int ms.sum t') { s with heap := h', toks := tk }) : wpAny (model PG w) A (call (.builtin "sum") [.ref l]) Q E s :=
  LSm.sum_ints (vs := its.toList) F N hh ⟨_, (N _ hl).1, rfl, n, by simp⟩ hi h
theorem sign_at {value slice : PySem.Expr} {x : Nat} {t u : Tok} {Q : Value → Shared → Prop} (h : ∀ sg word t' tk, (sg, word) ∈ signs → Q (.str sg t') { s with toks := tk })
    (hs : subscripted slice false (.str (Str.ofString "&<>\"") t) (.int ((x : Int).fmod 4) u) = operate [.str (Str.ofString "&<>\"") t, .int ((x : Int).fmod 4) u] (getItem (.str (Str.ofString "&<>\"") t) (.int ((x : Int).fmod 4) u)))
    (ht : ∀ r, letTemporaryGo value (.str (Str.ofString "&<>\"") t) r = pure ()) :
    wpAny (model PG w) A (subscriptTail value slice (.str (Str.ofString "&<>\"") t) (.int ((x : Int).fmod 4) u)) Q E s := by
  refine item_str_fmod (by decide) (by decide) (by decide) (fun _ => ?_) hs ht
  have h4 : (x : Int).fmod 4 = 0 ∨ (x : Int).fmod 4 = 1 ∨ (x : Int).fmod 4 = 2 ∨ (x : Int).fmod 4 = 3 := by
    have a := Int.fmod_nonneg_of_pos (x : Int) (by decide : (0 : Int) < 4)
    have b := Int.fmod_lt_of_pos (x : Int) (by decide : (0 : Int) < 4)
    (first | lia | omega)
  rcases h4 with e | e | e | e <;> rw [e]
  · rw [show Txt.item (Str.ofString "&<>\"") 0 = Str.ofString "&" by decide +kernel]
    exact h _ (Str.ofString "&amp;") _ _ (by simp [signs])
  · rw [show Txt.item (Str.ofString "&<>\"") 1 = Str.ofString "<" by decide +kernel]
    exact h _ (Str.ofString "&lt;") _ _ (by simp [signs])
  · rw [show Txt.item (Str.ofString "&<>\"") 2 = Str.ofString ">" by decide +kernel]
    exact h _ (Str.ofString "&gt;") _ _ (by simp [signs])
  · rw [show Txt.item (Str.ofString "&<>\"") 3 = Str.ofString "\"" by decide +kernel]
    exact h _ (Str.ofString "&quot;") _ _ (by simp [signs])
theorem cell_nat (z : Int) : ∃ x : Nat, z.fmod 1000000 = (x : Int) := ⟨(z.fmod 1000000).toNat, (Int.toNat_of_nonneg (Int.fmod_nonneg_of_pos z (by decide))).symm⟩
end
theorem nodup_gt {a : Nat} {l : List Nat} (h : ∀ b ∈ l, b < a) (n : l.Nodup) : (a :: l).Nodup := List.nodup_cons.mpr ⟨fun m => Nat.lt_irrefl _ (h _ m), n⟩
/-- how law ends: True; what stood at its start stands, but for the two code tables, which may have grown -/
noncomputable def EndT (g₀ : Heap) (os : OsState) (r : Result) (s' : Shared) : Prop :=
  r = .ok (.ret (.bool true)) ∧ (∀ b o, g₀.get? b = some o → s'.heap.get? b = some o) ∧ s'.os = os ∧ AllBare s'.gens ∧ (∃ ps, s'.heap.get? 140 = some (tabObj ps)) ∧ ∃ ps, s'.heap.get? 147 = some (tabObj ps)
theorem end_post {M : Model} {A : Around} {cd : Code} {s s₁ : Shared} {cw : ClaimW} {cl : Str → Option Addr} {mean : ExcName → Option Value} {args : List WData} (hT : TabsAt [(144, 140), (151, 147)] s₁.heap) (hn : ∀ x, cw.raises args x = false) (hp : cw.post args (.bool true) args = true)
    (h : codeAny M A cd (EndT (ghostOf s₁.heap [(144, 140), (151, 147)]) s₁.os) s) : codeAny M A cd (GoodWG cw cl mean args s₁) s := by
  refine codeAny_mono h fun r s' hE => ?_
  obtain ⟨rfl, hk, hos, hg, t1, t2⟩ := hE
  have tabs : ∀ q ∈ ([(144, 140), (151, 147)] : List (Addr × Addr)), ∃ ps, s'.heap.get? q.2 = some (tabObj ps) := fun q hq => by
    rcases List.mem_cons.mp hq with rfl | hq
    · exact t1
    · cases List.mem_singleton.mp hq; exact t2
  have split : ∀ b o, s₁.heap.get? b = some o → s'.heap.get? b = some o ∨ isCodeTable s₁.heap b ∧ o = tabObj #[] ∧ ∃ ps, s'.heap.get? b = some (tabObj ps) := fun b o e => by
    by_cases hb : b ∈ ([(144, 140), (151, 147)] : List (Addr × Addr)).map (·.2)
    · obtain ⟨q, hq, rfl⟩ := List.mem_map.mp hb
      have e2 := (hT q hq).2
      rw [e] at e2
      exact .inr ⟨((hT q hq).1.tab (hT q hq).2).isCodeTable, Option.some.inj e2, tabs q hq⟩
    · exact .inl (hk b o (ghost_ne e hb))
  refine ⟨.inl ⟨_, .bool true, [], rfl, hn, .bool true, hp, fun _ => ⟨List.nodup_nil, fun a ha => by cases ha⟩⟩, ⟨fun b o e => ?_, fun b o e => ?_⟩, hos, hg⟩
  · rcases split b o e with k | ⟨ht, rfl, ps, hP⟩
    · exact .inl k
    · exact .inr (.inl ⟨ht, rfl, #[], ps, rfl, by rw [Array.empty_append]; exact hP⟩)
  · rcases split b o e with k | ⟨_, _, ps, hP⟩
    · exact ⟨o, k⟩
    · exact ⟨_, hP⟩
end
section
open PySem PySem.Spec PySem.Calls PySem.W PyProof.Rows
set_option maxRecDepth 100000
set_option maxHeartbeats 0
theorem rows_S30_1 : True := by
  k_with_none
  w_top off
  k_with "z8" => ((try (case A => assumption)); (case B => k_asm); (case F => k_asm); (case X => k_asm); (case N => first | k_asm | exact cb_drop (by k_asm) (by intro p hp; repeat (first | exact hp | apply List.Mem.tail))); (case T => k_asm); (case hk => first | exact rfl | assumption); (case hdp => ktr_room); (case hun => ktr_units); (try (case G => assumption)))
  k_with "zo" => (first | omega | (simp; omega))
  k_with "call ref" => ((with_reducible show wpAny _ _ (call (Value.ref 330) _) _ _ _); refine HoldK.of ?_)
  k_with "k_mem" => (assumption)
  k_with "k_ne" => (first | exact ne_mem1 (by with_reducible assumption) (by with_reducible assumption) | exact ne_mem2 (by with_reducible assumption) (by with_reducible assumption))
  k_with "wpAt" => ((fail_if_success ks_step "execs cons"); dsimp only; ks_step "execs cons"; refine ks_wpAt_execs_cons ?_)
  k_with "wpAt" => (ks_step "eval Call"; k_dflt (refine ks_wpAt_MethodCall ?_))
  k_with "k_ne" => (first | exact ne_mem1 (by with_reducible assumption) (by with_reducible assumption) | exact ne_mem1 (And.right (by with_reducible assumption)) (by with_reducible assumption) | exact ne_mem1 (And.right (And.right (by with_reducible assumption))) (by with_reducible assumption) | exact ne_mem1 (And.right (And.right (And.right (by with_reducible assumption)))) (by with_reducible assumption) | exact ne_mem1 (And.right (And.right (And.right (And.right (by with_reducible assumption))))) (by with_reducible assumption) | exact ne_mem1 (And.right (And.right (And.right (And.right (And.right (by with_reducible assumption)))))) (by with_reducible assumption) | exact ne_mem1 (And.right (And.right (And.right (And.right (And.right (And.right (by with_reducible assumption))))))) (by with_reducible assumption))
  k_with "k_mem" => (first | with_reducible assumption | with_reducible exact List.Mem.head _ | with_reducible exact List.Mem.tail _ (by assumption) | with_reducible exact List.Mem.tail _ (List.Mem.tail _ (by assumption)) | with_reducible exact List.Mem.tail _ (List.Mem.tail _ (List.Mem.tail _ (by assumption))))
  k_with "k_mem" => (first | with_reducible assumption | with_reducible exact List.Mem.head _ | (with_reducible refine List.mem_cons_of_mem _ ?_; k_mem))
  k_with "binaryOp Mult ref int" => (k_here; k_dflt (refine mul_K (by k_asm) (by k_asm) (by k_mem) (by assumption) (by omega) ?_; k_whole; intro q' h' F' N' l1; (try k_lt l1); revert q' h' F' N' l1; intros))
  k_with "call builtin:list.extend" => (k_here; k_dflt (refine ext_K (by k_asm) (by k_asm) (by k_mem) (by k_updF) (by walk_at "zo") (by (walk_at "zo")) ?_; k_whole; intro h' n' F' N'; (try dsimp only at N'); revert h' n' F' N'; intros))
  k_with "loadName" => (refine wpAny_loadName_local (by exact rfl) (by exact rfl) (by exact Fr.ns (by assumption)) (by ((repeat (first | (refine Eq.trans (ite_off ?_) ?_; focus decide) | (refine Eq.trans (upd_off ?_) ?_; focus decide))); first | with_reducible assumption | exact if_pos rfl | exact upd_on)) ?_; k_whole)
  k_with "subscriptTail" => (k_here; (with_reducible show wpAny _ _ (subscriptTail _ _ (Value.ref _) (Value.int _ _)) _ _ _); k_dflt (refine get_Kneg (by k_asm) (by k_mem) (by decide) (by omega) (by decide) (by assumption) ?_ (by with_unfolding_all rfl); k_whole))
  k_with "subscriptTail" => (k_here; (with_reducible show wpAny _ _ (subscriptTail _ _ (Value.ref _) (Value.int _ _)) _ _ _); k_dflt (refine get_K (by k_asm) (by k_mem) (by omega) (by omega) (by assumption) ?_ (by with_unfolding_all rfl); k_whole))
  k_with "call builtin:len" => (k_here; (with_reducible show wpAny _ _ (call (Value.builtin _) [Value.ref _]) _ _ _); k_dflt (refine len_K (by k_asm) (by k_mem) (by omega) ?_; k_whole))
  k_with "call type:tuple" => (k_here; (with_reducible show wpAny _ _ (call (Value.type _) [Value.ref _]) _ _ _); k_dflt (refine tup_K (by k_asm) (by k_asm) (by k_mem) (by omega) ?_; k_whole; intros))
  k_with "compareOp NotEq ref ref" => (k_here; k_dflt (first | (refine ints_neY (by k_asm) (by k_mem) (by assumption) (by k_mem) (by assumption) (by ktr_units) ?_; k_whole) | (refine ints_neN (by k_asm) (by k_mem) (by assumption) (by k_mem) (by ktr_units) ?_; k_whole)))
  k_with "call builtin:list.pop" => (k_here; (with_reducible show wpAny _ _ (call (Value.builtin _) [Value.ref _]) _ _ _); k_dflt (refine pop_K (by k_asm) (by k_asm) (by assumption) (by k_updF) (by omega) ?_; k_whole; intros))
  k_with "exec While" => (refine While_go ?_)
  k_with "eval ListComp" => (k_here; k_dflt (refine ListComp_G (F₀ := by k_asm) (by with_unfolding_all rfl) (by rfl) (by decide) ?_))
  k_with "exec Assign cons ListComp" => (k_here; k_dflt (refine Assign_ListComp_G (F₀ := by k_asm) (by rfl) (by with_unfolding_all rfl) (by with_unfolding_all rfl) (by rfl) (by decide) (by rfl) (by rfl) ?_))
  k_with "call type:enumerate" => (k_here; (with_reducible show wpAny _ _ (call (Value.type _) [Value.ref _]) _ _ _); k_dflt (refine enum_K (by k_asm) (by k_asm) (by k_mem) ?_; k_whole; intros))
  k_with "subscriptTail Name Slice ref ref" => (k_here; (with_reducible show wpAny _ _ (subscriptTail _ (PySem.Expr.Slice _ _ (some _) _) (Value.ref _) (Value.ref _)) _ _ _); k_dflt (refine slice3_K (by k_asm) (by k_asm) (by exact Fr.lst (by k_asm) (by with_reducible assumption)) (by with_reducible assumption) (by omega) (by exact IsPart.int _ _) (by exact IsPart.none) (by exact IsPart.int _ _) (by decide) ?_ (by with_unfolding_all rfl) (by intro _; with_unfolding_all rfl); k_whole; intros))
  k_with "call builtin:sum" => (k_here; (with_reducible show wpAny _ _ (call (Value.builtin _) [Value.ref _]) _ _ _); k_dflt (refine sumI_K (by k_asm) (by k_asm) (by k_mem) (by with_reducible assumption) (by rfl) ?_; k_whole; intros))
  k_with "subscriptTail" => (k_here; (with_reducible show wpAny _ _ (subscriptTail _ _ (Value.str _ _) (Value.int (Int.fmod _ _) _)) _ _ _); k_dflt (refine sign_at ?_ (by with_unfolding_all rfl) (by intro _; with_unfolding_all rfl); k_whole; intros))
  k_with "call ref" => (k_here; k_dflt ((with_reducible show wpAny _ _ (call (Value.ref 301) _ _) _ _ _); (apply lead; walk_at "z8"; k_whole; intros)))
  k_with "execs cons" => (first | (k_here; k_gentoks) | ((try (rename Flow → Shared → Prop => qq; clear qq)); (try (rename Value → Shared → Prop => qq; clear qq)); refine wpAny_execs_cons ?_; (try dsimp only); k_fold))
  k_with "subscriptTail Name Name ref int" => (k_extra "subscriptTail")
  k_with "subscriptTail Name Constant ref int" => (k_extra "subscriptTail")
  trivial
theorem law_keys {ld T1 D1 T0 D0 : Nat} (r1 : T1 < ld) (r2 : D1 < ld) (r3 : T0 < ld) (r4 : D0 < ld) (t1 : D1 < T1) (d1 : T0 < D1) (d1' : D0 < D1) (t0 : D0 < T0) (c0 : @LT.lt Nat _ 147 D0) : ((140 : Addr) :: 147 :: ([ld, T1, D1, T0, D0] : List Nat)).Nodup := by
  have nn : ∀ {x : Nat} {l : List Nat}, (∀ q ∈ l, q < x) → l.Nodup → (x :: l).Nodup := fun h n => List.nodup_cons.mpr ⟨fun m => Nat.lt_irrefl _ (h _ m), n⟩
  have nd : ([ld, T1, D1, T0, D0] : List Nat).Nodup := nn (by simp; omega) (nn (by simp; omega) (nn (by simp; omega) (nn (by simp; omega) (by simp))))
  have c1 : ∀ b ∈ ([ld, T1, D1, T0, D0] : List Nat), 147 < b := by simp; omega
  exact List.nodup_cons.mpr ⟨fun hm => by rcases List.mem_cons.mp hm with h | h; exact absurd h (by decide); exact absurd (c1 _ h) (by decide), List.nodup_cons.mpr ⟨fun hm => Nat.lt_irrefl _ (c1 _ hm), nd⟩⟩
theorem fill_now : PySem.Challenge.rw_wu0100_01 = PySem.Challenge.rw_wu0100_01 ∧ fr.heap_1 = fr.heap_1 := by
  k_fill
  exact ⟨rfl, rfl⟩
theorem law_holds : PySem.Challenge.rw_wu0100_01.Holds := by
  refine hd ?_
  k_fill
  intro w s0 s1 mg mb G Y fa o pm cd doc dV kV ho hd' hcd hD hmg hg args vals as hpre hlay hrd hwl hlo
  have hT8 := km_tabs_of Y
  have X0 := km_in_of Y
  refine Ground.open G ?_
  intro T B D TE TW
  try (refine guard_noD D (by decide +kernel) ?_; clear D)
  have hT9 : TabsAt [(144,140),(151,147)] s1.heap := List.forall_mem_cons.mpr ⟨⟨codeHd_of_K (c := 144) (P := 140) X0 (by kernel_rfl), hT8 140 (.head _)⟩, List.forall_mem_cons.mpr ⟨⟨codeHd_of_K (c := 151) (P := 147) X0 (by kernel_rfl), hT8 147 (.tail _ (.head _))⟩, fun _ h => by cases h⟩⟩
  wrow_args hpre hlay hrd hwl hlo
  first | refine callC_kw (enter_call ?_) | refine enter_call ?_
  w_top on
  refine end_post hT9 (fun _ => rfl) (postW_of (by wrow_shape) (by wtm_val) (by first | rfl | w_fin)) ?_
  w_call any ho hd' hcd hD T F
  kn_ghosts F T
  k_drop
  clear hT9 TE TW B T hT8
  all_goals try k_fold
  rename_i scr hs1 hs2 hs3 hs4 hs5 as1 as2 aS vsS as3 hLs ra w1 r0 hI hr1 hlen htr h1 tk1 oc dcell XC X' T' K' F' cH1 N' l0
  have e1 : oc.data = .cell (some (.ref aS)) := dcell
  have hscr : scr.length ≤ 63 := by omega
  clear dcell hs1 hs2 hs3 hs4 hs5 hr1 htr hlen hmg hcd hd' hD
  obtain ⟨M0, -, F0⟩ := fr_gen (P := fun _ => True) F' trivial
  clear F'
  k_steps
  rename_i q h2 F2 N2 l2 e it h3 hE F3 N3 hlt hie hLi hfr
  refine comp_enum (fun i ys => ys.length = i ∧ ∃ xs : List Nat, xs.length = i ∧ IntsL ys.toArray xs) (.head _) (by show 3 ≤ 1000; decide) (by rfl) F3 N3 hE hlt hie hLi hfr (by decide) (by rfl) (by rfl) (by rfl) (by decide) ⟨rfl, [], rfl, .nil⟩ ?_ ?_
  · intro i ys v tk s₁ oe oit C oC D m₂ E' hi hv hI1 hm1 hm2 F4 N4 hC hg4 ho4
    try k_fold
    obtain ⟨hyl, xs, hxl, hxs⟩ := hI1
    obtain ⟨b, tb, rfl⟩ : ∃ b tb, v = .int b tb := by
      have h3 : i = 0 ∨ i = 1 ∨ i = 2 := by simp at hi; omega
      rcases h3 with rfl | rfl | rfl <;> cases hv <;> exact ⟨_, _, rfl⟩
    clear F2 N2 F3 N3 hE hv
    k_steps
    rename_i D1 h5 zs ms F5 N5 hI5 h6 tk6 t6 F6 N6
    have hx : ∀ z : Int, z.fmod (10 ^ Int.toNat 6) = (((z.fmod (10 ^ Int.toNat 6)).toNat : Nat) : Int) := fun z => (Int.toNat_of_nonneg (Int.fmod_nonneg_of_pos _ (by decide))).symm
    refine ⟨⟨by simp [hyl], xs ++ [((b + ms.sum).fmod (10 ^ Int.toNat 6)).toNat], by simp [hxl], ?_⟩, F6, cb_drop N6 (fun p hp => .tail _ hp), hg4, ho4⟩
    rw [← List.push_toArray]
    exact hxs.push (hx _)
  · intro D ys s' hI1 hg4 ho4
    try k_fold
    obtain ⟨hyl, xs, hxl, hxs⟩ := hI1
    unfold FinGA
    intro h8 tk8 F8 N8 hD
    rw [show LCg.lst ys = listOf ys.toArray ys.length from rfl] at N8
    have hx3 : xs.length = 3 := hxl
    obtain ⟨x0, x1, x2, rfl⟩ : ∃ x0 x1 x2, xs = [x0, x1, x2] := by
      match xs, hx3 with
      | [a, b, c], _ => exact ⟨a, b, c, rfl⟩
    obtain ⟨ta, y0⟩ := hxs.2 0 (by simp)
    obtain ⟨tb, y1⟩ := hxs.2 1 (by simp)
    obtain ⟨tc, y2⟩ := hxs.2 2 (by simp)
    have z0 : ys.toArray[(0 : Int).toNat]? = some (.int (x0 : Int) ta) := y0
    have z1 : ys.toArray[(1 : Int).toNat]? = some (.int (x1 : Int) tb) := y1
    have z2 : ys.toArray[(2 : Int).toNat]? = some (.int (x2 : Int) tc) := y2
    have hyz : ys.toArray.size = 3 := by simpa using hyl
    clear F2 N2 F3 N3 hE
    k_steps
    rename_i T0 D0 ws0 kb0 h5 tk5 hI0 lD0 lT0 T1 D1 ws1 kb1 h6 tk6 hI1 lD1 lT1 ld h7 F7 N7 l7 sg word t7 tk7 hsg
    have N9 := cb_drop (news := (140, tabObj #[]) :: (147, tabObj #[]) :: (ld, listOf #[.ref T0, .ref T1] 0) :: (T1, tupOf #[.ref D1, .int (restOf x1 : Int) kb1]) :: (D1, listOf ws1 0) :: (T0, tupOf #[.ref D0, .int (restOf x0 : Int) kb0]) :: (D0, listOf ws0 0) :: []) N7 (by
      refine List.forall_mem_cons.mpr ⟨?_, List.forall_mem_cons.mpr ⟨?_, fun p hp => List.mem_append_left (as := [_, _, _, _, _]) _ hp⟩⟩
      all_goals repeat (first | exact List.Mem.head _ | apply List.Mem.tail))
    delta HoldK
    k_dflt (refine' agree (p1 := #[]) (p2 := #[]) (R0 := (ld, listOf #[.ref T0, .ref T1] 0) :: (T1, tupOf #[.ref D1, .int (restOf x1 : Int) kb1]) :: (D1, listOf ws1 0) :: (T0, tupOf #[.ref D0, .int (restOf x0 : Int) kb0]) :: (D0, listOf ws0 0) :: []) ?zB ?zF ?zX ?zN ?zT ?zhk ?zhdp ?zhun ?zo1 ?zo2 ?znd ?zG ?zh0 ?za0 ?za1 ?zl0 ?zl1 ?zv0 ?zv1 ?zr0 ?zr1 ?zq0 ?zq1 ?zsg ?_)
    case zB => k_asm
    case zF => k_asm
    case zX => k_asm
    case zN => exact N9
    case zT => k_asm
    case zhk => exact rfl
    case zhdp => ktr_room
    case zhun => ktr_units
    case zo1 => exact .inl rfl
    case zo2 => exact .inl rfl
    case zh0 => exact .head _
    case za0 => exact .tail _ (.tail _ (.tail _ (.head _)))
    case za1 => exact .tail _ (.head _)
    case zl0 => exact .tail _ (.tail _ (.tail _ (.tail _ (.head _))))
    case zl1 => exact .tail _ (.tail _ (.head _))
    case zv0 => exact hI0
    case zv1 => exact hI1
    case zr0 => exact runsOf_mem x0
    case zr1 => exact runsOf_mem x1
    case zq0 => exact restOf_lt x0
    case zq1 => exact restOf_lt x1
    case zsg => exact hsg
    case zG =>
      show AllBare s'.gens
      rw [hg4]
      exact .of_eq hg
    case znd =>
      exact law_keys l7.1 l7.2.1 l7.2.2.1 l7.2.2.2.1 lT1 (lD1 _ (.head _)) (lD1 _ (.tail _ (.head _))) lT0 (lD0 _ (.tail _ (.tail _ (.tail _ (.tail _ (.head _))))))
    intro s₂ nw u1 u2 F8 N8 m1 m2 G8 o8
    exact ⟨rfl, fun b o e => F8.keep b o e, (show s₂.os = s'.os from o8).trans ho4, G8, ⟨u1, (N8 _ m1).1⟩, ⟨u2, (N8 _ m2).1⟩⟩
end
end Mine
theorem PySem.Challenge.cw_wu0100_01_holds : PySem.Challenge.rw_wu0100_01.Holds :=
  Mine.law_holds
