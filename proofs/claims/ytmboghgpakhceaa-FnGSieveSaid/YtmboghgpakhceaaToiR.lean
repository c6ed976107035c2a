/- Contracts of functions of the program, proved by walking through their code. Conditions: those that each theorem names. -/
import Derived.Test.YtmboghgpakhceaaToiB
import Derived.Test.YtmboghgpakhceaaToiE
import Derived.Test.YtmboghgpakhceaaTogR
namespace Go.Bt.FG
open Go Go.Proofs Go.Proofs.Try
set_option maxRecDepth 20000
set_option maxHeartbeats 4000000
set_option linter.unusedVariables false
set_option linter.unusedSectionVars false

theorem Pl.runs_cons {α β γ : Type} (f : List α → β → List α × γ) (l : List α) (k : β) (ks : List β) : Pl.runs f l (k :: ks) = ((Pl.runs f (f l k).1 ks).1,(f l k).2 :: (Pl.runs f (f l k).1 ks).2) := by
  have h : ∀ (ks : List β) (m : List α) (A B : List γ),ks.foldl (fun s k => ((f s.1 k).1,s.2 ++ [(f s.1 k).2])) (m,A ++ B) = ((ks.foldl (fun s k => ((f s.1 k).1,s.2 ++ [(f s.1 k).2])) (m,B)).1,A ++ (ks.foldl (fun s k => ((f s.1 k).1,s.2 ++ [(f s.1 k).2])) (m,B)).2) := by
    intro ks
    induction ks with
    | nil => intros; rfl
    | cons k ks ih =>
      intro m A B
      simp only [List.foldl_cons,List.append_assoc]
      exact ih _ A _
  exact h ks (f l k).1 [(f l k).2] []
end Go.Bt.FG
